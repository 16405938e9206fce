import JvmDerived
import JvmDerived.Pilot.@@N@@Statement
import JvmDerived.Pilot.@@N@@Code
set_option linter.unusedVariables false
set_option linter.unusedSimpArgs false
/- laws to paste: Road.backV (cut by pick.py; bodies as the Statement names them) -/
namespace Jvm.Pilot.@@N@@
namespace StrChars
open Jvm Sem ClassFile Op Lib Jvm.Stand Jvm.Free.XT Jvm.Free.ALB Jvm.Free.JM Jvm.Free
open Jvm.Lib.Cold (StaticIs)
/-- a char array whose places are chars -/
def Ch (a : Addr) (A : Cell) (U : State) : Prop := Arr .char a A U ∧ Typed .char A
theorem Ch.mv {a : Addr} {A : Cell} {U U' : State} (h : Ch a A U) (hal : U.vm.Alike U'.vm) (hh : U'.heap = U.heap) : Ch a A U' := ⟨h.1.mv hal hh, h.2⟩
theorem Ch.keep {a : Addr} {A : Cell} {U U' : State} (h : Ch a A U) (hal : U.vm.Alike U'.vm) (hk : U'.heap[a]? = some A) : Ch a A U' := ⟨h.1.keep hal hk, h.2⟩
/-- what place i of a char[]'s cell holds -/
def cv (A : Cell) (i : Nat) : Int32 := match A.slots[i]? with | some (.int x) => x | _ => 0
theorem Ch.get {a : Addr} {A : Cell} {U : State} (h : Ch a A U) {i : Nat} (hi : i < A.slots.size) : A.slots[i]? = some (.int (cv A i)) := by
  have e := Array.getElem?_eq_getElem hi
  have f := h.2 i _ e
  unfold cv; rw [e]
  generalize A.slots[i] = v at f
  cases v <;> simp [fits] at f ⊢
/-- the byte that i2b leaves of a char -/
def lo8 (x : Int32) : Int32 := x.toInt8.toInt32
theorem fits_lo8 (y : Int32) : fits .byte (.int (lo8 y)) = true := by
  have h1 := y.toInt8.le_toInt
  have h2 := y.toInt8.toInt_lt
  simp only [lo8, fits, Bool.and_eq_true, decide_eq_true_eq, Int32.le_iff_toInt_le, Int8.toInt_toInt32, show (-128 : Int32).toInt = -128 from by decide, show (127 : Int32).toInt = 127 from by decide]
  omega
/-- A' is A but that each place j of lo .. hi - 1 holds f j -/
def Laid (A A' : Cell) (lo hi : Nat) (f : Nat → Value) : Prop := A'.cls = A.cls ∧ A'.vm = A.vm ∧ A'.slots.size = A.slots.size ∧ ∀ i, A'.slots[i]? = if lo ≤ i ∧ i < hi then some (f i) else A.slots[i]?
theorem Laid.zero (A : Cell) (lo : Nat) (f : Nat → Value) : Laid A A lo (lo + 0) f := ⟨rfl, rfl, rfl, fun i => by rw [if_neg (by omega)]⟩
theorem Laid.step {A Ak : Cell} {lo k : Nat} {f : Nat → Value} {v : Value} (h : Laid A Ak lo k f) (hlo : lo ≤ k) (hk : k < Ak.slots.size) (hv : v = f k) : Laid A (Ak.setSlot k v) lo (k + 1) f := by
  refine ⟨h.1, h.2.1, by simpa [Cell.setSlot] using h.2.2.1, fun i => ?_⟩
  by_cases e : k = i
  · subst e; rw [Cell.slots_setSlot_self v hk, if_pos (by omega), hv]
  · rw [Cell.slots_setSlot_ne v e, h.2.2.2 i]
    by_cases q : lo ≤ i ∧ i < k
    · rw [if_pos q, if_pos (by omega)]
    · rw [if_neg q, if_neg (by omega)]
def U16 : String := "java/lang/StringUTF16"
namespace Cmp5
def yN : MethodName := ⟨"java/lang/StringUTF16", "compress", "([CI[BII)I"⟩
abbrev yB : ByteArray := jdk_52_method_21_code
theorem d0 : decode yB 0 = .ok (.iconst 0, 1) := by decide +kernel
theorem d1 : decode yB 1 = .ok (.istore 5, 2) := by decide +kernel
theorem d3 : decode yB 3 = .ok (.iload 5, 2) := by decide +kernel
theorem d5 : decode yB 5 = .ok (.iload 4, 2) := by decide +kernel
theorem d7 : decode yB 7 = .ok (.if_icmp (.ge) 37, 3) := by decide +kernel
theorem d10 : decode yB 10 = .ok (.aload_n 0, 1) := by decide +kernel
theorem d11 : decode yB 11 = .ok (.iload_n 1, 1) := by decide +kernel
theorem d12 : decode yB 12 = .ok (.caload, 1) := by decide +kernel
theorem d13 : decode yB 13 = .ok (.istore 6, 2) := by decide +kernel
theorem d15 : decode yB 15 = .ok (.iload 6, 2) := by decide +kernel
theorem d17 : decode yB 17 = .ok (.sipush 255, 3) := by decide +kernel
theorem d20 : decode yB 20 = .ok (.if_icmp (.le) 6, 3) := by decide +kernel
theorem d26 : decode yB 26 = .ok (.aload_n 2, 1) := by decide +kernel
theorem d27 : decode yB 27 = .ok (.iload_n 3, 1) := by decide +kernel
theorem d28 : decode yB 28 = .ok (.iload 6, 2) := by decide +kernel
theorem d30 : decode yB 30 = .ok (.i2b, 1) := by decide +kernel
theorem d31 : decode yB 31 = .ok (.bastore, 1) := by decide +kernel
theorem d32 : decode yB 32 = .ok (.iinc 1 1, 3) := by decide +kernel
theorem d35 : decode yB 35 = .ok (.iinc 3 1, 3) := by decide +kernel
theorem d38 : decode yB 38 = .ok (.iinc 5 1, 3) := by decide +kernel
theorem d41 : decode yB 41 = .ok (.goto (-38), 3) := by decide +kernel
theorem d44 : decode yB 44 = .ok (.iload 4, 2) := by decide +kernel
theorem d46 : decode yB 46 = .ok (.ireturn, 1) := by decide +kernel
def site : List Cond := []
def tab : Cond := tabOf yN yB 7 (some .int) site
def P (b : Addr) (A : Cell) (d : Addr) (B : Cell) (o q len : Nat) (args : Array Value) (s : State) : Prop := args = #[.ref b, .int (Int32.ofNat o), .ref d, .int (Int32.ofNat q), .int (Int32.ofNat len)] ∧ Ch b A s ∧ Arr .byte d B s ∧ b ≠ d ∧ o + len ≤ A.slots.size ∧ q + len ≤ B.slots.size ∧ ∀ i, i < len → ¬ 255 < cv A (o + i)
def E (b : Addr) (A : Cell) (d : Addr) (B : Cell) (o q len : Nat) (r : Option Value) (s u : State) : Prop := r = some (.int (Int32.ofNat len)) ∧ ∃ B', Put d B' s u ∧ Laid B B' q (q + len) (fun j => Value.int (lo8 (cv A (o + (j - q)))))
/-- no char of the range above 255: len; the places written hold each char's low byte -/
theorem law (l : Launch) (b : Addr) (A : Cell) (d : Addr) (B : Cell) (o q len : Nat) : Law l yN 5 5 0 0 yB 7 (some .int) site (P b A d B o q len) (E b A d B o q len) (copyLocs d q len) 0 0 := by
  refine Law.of_walk (plainFor_of_name (by decide +kernel)) (by decide +kernel) (by decide +kernel) (by decide) (fun _ _ h => by rw [h.1]; rfl) (fun _ U U' hal hh h => ⟨h.1, h.2.1.mv hal hh, h.2.2.1.mv hal hh, h.2.2.2⟩) (fun r U U' V V' h1 hal h2 h => ⟨h.1, h.2.elim fun B' q => ⟨B', q.1.mv h1 h2, q.2⟩⟩) ?_
  intro p e s m args below meth c s₁ X0 hexec hbytes hml hret hlk hnm hown hh0 W hP
  obtain ⟨rfl, hA, hB, hne, l1, l2, hp⟩ := hP
  have c1 : Steps p.tables e below (s₁.setTop (entryFrame m #[.ref b, .int (Int32.ofNat o), .ref d, .int (Int32.ofNat q), .int (Int32.ofNat len)] 7)) (s₁.setTop (mkF m 0 #[.val (.ref b), .val (.int (Int32.ofNat o)), .val (.ref d), .val (.int (Int32.ofNat q)), .val (.int (Int32.ofNat len)), .unset, .unset] [])) := entry rfl
  have hA0 := hA.1.mv X0.warmed.alike hh0
  have hB0 := hB.mv X0.warmed.alike hh0
  have a31 := hA.1.2.2.2
  have c2 : Steps p.tables e below (s₁.setTop (entryFrame m #[.ref b, .int (Int32.ofNat o), .ref d, .int (Int32.ofNat q), .int (Int32.ofNat len)] 7)) (s₁.setTop (mkF m 3 #[.val (.ref b), .val (.int (Int32.ofNat o)), .val (.ref d), .val (.int (Int32.ofNat q)), .val (.int (Int32.ofNat len)), .val (.int 0), .unset] [])) := c1.trans (by
    refine iconstV X0.here hexec rfl 0 (hb hbytes d0) (by decide) ?_
    refine XS.istore X0.here hexec rfl (hb hbytes d1) rfl rfl ?_
    exact Steps.refl _)
  have loop : ∀ (r i : Nat), i + r = len → ∀ (z : Slot), (z = .unset ∨ ∃ w, z = .val w ∧ w.category = 1) → ∀ (Tl : State) (Bk : Cell), Stand p l e { frames := 0, locals := 0, cells := 0, slots := 0 } s m #[.ref b, .int (Int32.ofNat o), .ref d, .int (Int32.ofNat q), .int (Int32.ofNat len)] below meth c Tl ([] ++ copyLocs d q i) 0 0 → Put d Bk s₁ Tl → Laid B Bk q (q + i) (fun j => Value.int (lo8 (cv A (o + (j - q))))) →
      Steps p.tables e below (s₁.setTop (entryFrame m #[.ref b, .int (Int32.ofNat o), .ref d, .int (Int32.ofNat q), .int (Int32.ofNat len)] 7)) (Tl.setTop (mkF m 3 #[.val (.ref b), .val (.int (Int32.ofNat (o + i))), .val (.ref d), .val (.int (Int32.ofNat (q + i))), .val (.int (Int32.ofNat len)), .val (.int (Int32.ofNat i)), z] [])) → ∃ (T' : State) (B' : Cell) (z' : Slot), Stand p l e { frames := 0, locals := 0, cells := 0, slots := 0 } s m #[.ref b, .int (Int32.ofNat o), .ref d, .int (Int32.ofNat q), .int (Int32.ofNat len)] below meth c T' ([] ++ copyLocs d q len) 0 0 ∧ Put d B' s₁ T' ∧ Laid B B' q (q + len) (fun j => Value.int (lo8 (cv A (o + (j - q))))) ∧
      Steps p.tables e below (s₁.setTop (entryFrame m #[.ref b, .int (Int32.ofNat o), .ref d, .int (Int32.ofNat q), .int (Int32.ofNat len)] 7)) (T'.setTop (mkF m 3 #[.val (.ref b), .val (.int (Int32.ofNat (o + len))), .val (.ref d), .val (.int (Int32.ofNat (q + len))), .val (.int (Int32.ofNat len)), .val (.int (Int32.ofNat len)), z'] [])) := by
    intro r
    induction r with
    | zero =>
      intro i hi z hz Tl Bk Xl pl fl cl
      have hil : i = len := by omega
      rw [hil] at Xl fl cl
      exact ⟨Tl, Bk, z, Xl, pl, fl, cl⟩
    | succ r ih =>
      intro i hi z hz Tl Bk Xl pl fl cl
      have all := X0.warmed.alike.symm.trans Xl.warmed.alike
      have hAl := hA0.keep all (pl.other hne hA0.1)
      have hBk := hB0.like all pl.1 fl.1 fl.2.1 fl.2.2.1
      have hlt : q + i < Bk.slots.size := by rw [fl.2.2.1]; omega
      have c3 : Steps p.tables e below (s₁.setTop (entryFrame m #[.ref b, .int (Int32.ofNat o), .ref d, .int (Int32.ofNat q), .int (Int32.ofNat len)] 7)) (Tl.setTop (mkF m 12 #[.val (.ref b), .val (.int (Int32.ofNat (o + i))), .val (.ref d), .val (.int (Int32.ofNat (q + i))), .val (.int (Int32.ofNat len)), .val (.int (Int32.ofNat i)), z] [.int (Int32.ofNat (o + i)), .ref b])) := cl.trans (by
        refine XS.iload Xl.here hexec rfl (hb hbytes d3) rfl ?_
        refine XS.iload Xl.here hexec rfl (hb hbytes d5) rfl ?_
        refine XS.icmpNo Xl.here hexec rfl (hb hbytes d7) rfl (ii_ge_f (lt32 (by omega) (by omega))) ?_
        refine XS.aloadN Xl.here hexec rfl (hb hbytes d10) rfl rfl ?_
        refine XS.iloadN Xl.here hexec rfl (hb hbytes d11) rfl ?_
        exact Steps.refl _)
      have c4 : Steps p.tables e below (s₁.setTop (entryFrame m #[.ref b, .int (Int32.ofNat o), .ref d, .int (Int32.ofNat q), .int (Int32.ofNat len)] 7)) (Tl.setTop (mkF m 13 #[.val (.ref b), .val (.int (Int32.ofNat (o + i))), .val (.ref d), .val (.int (Int32.ofNat (q + i))), .val (.int (Int32.ofNat len)), .val (.int (Int32.ofNat i)), z] [.int (cv A (o + i))])) := c3.trans (by
        refine Xl.aget hexec hAl rfl (hA.get (i := o + i) (by omega)) rfl rfl (hb hbytes d12) ?_
        exact Steps.refl _)
      have c5 : Steps p.tables e below (s₁.setTop (entryFrame m #[.ref b, .int (Int32.ofNat o), .ref d, .int (Int32.ofNat q), .int (Int32.ofNat len)] 7)) (Tl.setTop (mkF m 15 #[.val (.ref b), .val (.int (Int32.ofNat (o + i))), .val (.ref d), .val (.int (Int32.ofNat (q + i))), .val (.int (Int32.ofNat len)), .val (.int (Int32.ofNat i)), .val (.int (cv A (o + i)))] [])) := c4.trans (by
        refine XS.istoreS Xl.here hexec rfl (hb hbytes d13) rfl rfl hz ?_
        exact Steps.refl _)
      have c6 : Steps p.tables e below (s₁.setTop (entryFrame m #[.ref b, .int (Int32.ofNat o), .ref d, .int (Int32.ofNat q), .int (Int32.ofNat len)] 7)) (Tl.setTop (mkF m 31 #[.val (.ref b), .val (.int (Int32.ofNat (o + i))), .val (.ref d), .val (.int (Int32.ofNat (q + i))), .val (.int (Int32.ofNat len)), .val (.int (Int32.ofNat i)), .val (.int (cv A (o + i)))] [.int (lo8 (cv A (o + i))), .int (Int32.ofNat (q + i)), .ref d])) := c5.trans (by
        refine XS.iload Xl.here hexec rfl (hb hbytes d15) rfl ?_
        refine sipushV Xl.here hexec rfl 255 (hb hbytes d17) (by decide) ?_
        refine XS.icmpYes Xl.here hexec rfl (pc0 := 20) rfl (hb hbytes d20) rfl (ii_le_t (hp i (by omega))) (by decide) rfl ?_
        refine XS.aloadN Xl.here hexec rfl (hb hbytes d26) rfl rfl ?_
        refine XS.iloadN Xl.here hexec rfl (hb hbytes d27) rfl ?_
        refine XS.iload Xl.here hexec rfl (hb hbytes d28) rfl ?_
        refine i2b Xl.here hexec rfl (hb hbytes d30) rfl ?_
        exact Steps.refl _)
      obtain ⟨T7, X7, p7, st7⟩ := Xl.aput hexec hBk rfl hlt rfl (fits_lo8 (cv A (o + i))) (g := (mkF m 31 #[.val (.ref b), .val (.int (Int32.ofNat (o + i))), .val (.ref d), .val (.int (Int32.ofNat (q + i))), .val (.int (Int32.ofNat len)), .val (.int (Int32.ofNat i)), .val (.int (cv A (o + i)))] [.int (lo8 (cv A (o + i))), .int (Int32.ofNat (q + i)), .ref d])) rfl (rest := []) rfl (hb hbytes d31)
      have c8 : Steps p.tables e below (s₁.setTop (entryFrame m #[.ref b, .int (Int32.ofNat o), .ref d, .int (Int32.ofNat q), .int (Int32.ofNat len)] 7)) (T7.setTop (mkF m 32 #[.val (.ref b), .val (.int (Int32.ofNat (o + i))), .val (.ref d), .val (.int (Int32.ofNat (q + i))), .val (.int (Int32.ofNat len)), .val (.int (Int32.ofNat i)), .val (.int (cv A (o + i)))] [])) := c6.trans (st7 _ (Steps.refl _))
      have c9 : Steps p.tables e below (s₁.setTop (entryFrame m #[.ref b, .int (Int32.ofNat o), .ref d, .int (Int32.ofNat q), .int (Int32.ofNat len)] 7)) (T7.setTop (mkF m 3 #[.val (.ref b), .val (.int (Int32.ofNat (o + i) + 1)), .val (.ref d), .val (.int (Int32.ofNat (q + i) + 1)), .val (.int (Int32.ofNat len)), .val (.int (Int32.ofNat i + 1)), .val (.int (cv A (o + i)))] [])) := c8.trans (by
        refine iincV X7.here hexec rfl 1 (hb hbytes d32) (by decide) rfl rfl ?_
        refine iincV X7.here hexec rfl 1 (hb hbytes d35) (by decide) rfl rfl ?_
        refine iincV X7.here hexec rfl 1 (hb hbytes d38) (by decide) rfl rfl ?_
        refine XS.goto X7.here hexec rfl (pc0 := 41) rfl (hb hbytes d41) (by decide) rfl ?_
        exact Steps.refl _)
      have c10 : Steps p.tables e below (s₁.setTop (entryFrame m #[.ref b, .int (Int32.ofNat o), .ref d, .int (Int32.ofNat q), .int (Int32.ofNat len)] 7)) (T7.setTop (mkF m 3 #[.val (.ref b), .val (.int (Int32.ofNat (o + (i + 1)))), .val (.ref d), .val (.int (Int32.ofNat (q + (i + 1)))), .val (.int (Int32.ofNat len)), .val (.int (Int32.ofNat (i + 1))), .val (.int (cv A (o + i)))] [])) := by
        have := c9
        rw [succ32, succ32, succ32] at this
        exact this
      exact ih (i + 1) (by omega) _ (Or.inr ⟨_, rfl, rfl⟩) T7 _ (by rw [copyLocs_step, ← List.append_assoc]; exact X7) (pl.trans p7) (fl.step (by omega) hlt (by simp)) c10
  obtain ⟨T9, B9, z9, X9, p9, f9, g9⟩ := loop len 0 (by omega) .unset (Or.inl rfl) s₁ B (by simpa [copyLocs] using X0) ⟨hB0.1, fun _ _ => rfl, rfl⟩ (Laid.zero _ _ _) c2
  have c11 : Steps p.tables e below (s₁.setTop (entryFrame m #[.ref b, .int (Int32.ofNat o), .ref d, .int (Int32.ofNat q), .int (Int32.ofNat len)] 7)) (T9.setTop (mkF m 46 #[.val (.ref b), .val (.int (Int32.ofNat (o + len))), .val (.ref d), .val (.int (Int32.ofNat (q + len))), .val (.int (Int32.ofNat len)), .val (.int (Int32.ofNat len)), z9] [.int (Int32.ofNat len)])) := g9.trans (by
    refine XS.iload X9.here hexec rfl (hb hbytes d3) rfl ?_
    refine XS.iload X9.here hexec rfl (hb hbytes d5) rfl ?_
    refine XS.icmpYes X9.here hexec rfl (pc0 := 7) rfl (hb hbytes d7) rfl (ii_ge_t (nlt32 (by omega) (Nat.le_refl _))) (by decide) rfl ?_
    refine XS.iload X9.here hexec rfl (hb hbytes d44) rfl ?_
    exact Steps.refl _)
  exact ⟨T9, some (.int (Int32.ofNat len)), _, _, _, X9, by simp, rfl, rfl, (fun h => by cases h), ⟨rfl, B9, p9.from hh0, f9⟩, fun fs hl => c11.trans (X9.ireturnOut hexec hret rfl (Or.inl rfl) (hb hbytes d46) hl)⟩
end Cmp5
namespace Cmp3
def yN : MethodName := ⟨"java/lang/StringUTF16", "compress", "([CII)[B"⟩
abbrev yB : ByteArray := jdk_52_method_16_code
theorem d0 : decode yB 0 = .ok (.iload_n 2, 1) := by decide +kernel
theorem d1 : decode yB 1 = .ok (.newarray .byte, 2) := by decide +kernel
theorem d3 : decode yB 3 = .ok (.astore_n 3, 1) := by decide +kernel
theorem d4 : decode yB 4 = .ok (.aload_n 0, 1) := by decide +kernel
theorem d5 : decode yB 5 = .ok (.iload_n 1, 1) := by decide +kernel
theorem d6 : decode yB 6 = .ok (.aload_n 3, 1) := by decide +kernel
theorem d7 : decode yB 7 = .ok (.iconst 0, 1) := by decide +kernel
theorem d8 : decode yB 8 = .ok (.iload_n 2, 1) := by decide +kernel
theorem d9 : decode yB 9 = .ok (.invokestatic 115, 3) := by decide +kernel
theorem d12 : decode yB 12 = .ok (.istore 4, 2) := by decide +kernel
theorem d14 : decode yB 14 = .ok (.iload 4, 2) := by decide +kernel
theorem d16 : decode yB 16 = .ok (.iload_n 2, 1) := by decide +kernel
theorem d17 : decode yB 17 = .ok (.if_icmp (.eq) 40, 3) := by decide +kernel
theorem d57 : decode yB 57 = .ok (.aload_n 3, 1) := by decide +kernel
theorem d58 : decode yB 58 = .ok (.areturn, 1) := by decide +kernel
def site : List Cond := [.arrayClass .byte, Cmp5.tab] ++ staticW U16 115 Cmp5.yN
def tab : Cond := tabOf yN yB 6 (some (.array .byte)) site
def P (b : Addr) (A : Cell) (o len : Nat) (args : Array Value) (s : State) : Prop := args = #[.ref b, .int (Int32.ofNat o), .int (Int32.ofNat len)] ∧ Ch b A s ∧ o + len ≤ A.slots.size ∧ len ≤ 536870912 ∧ ∀ i, i < len → ¬ 255 < cv A (o + i)
def E (b : Addr) (A : Cell) (o len : Nat) (r : Option Value) (s u : State) : Prop := NewArr .byte "[B" len (fun j => .int (lo8 (cv A (o + j)))) r s u ∧ u.heap.size = s.heap.size + 1
/-- no char of the range above 255: a new byte[] of their low bytes -/
theorem law (l : Launch) (b : Addr) (A : Cell) (o len : Nat) : Law l yN 3 3 1 18 yB 6 (some (.array .byte)) site (P b A o len) (E b A o len) [] 1 len := by
  refine Law.of_walk (plainFor_of_name (by decide +kernel)) (by decide +kernel) (by decide +kernel) (by decide) (fun _ _ h => by rw [h.1]; rfl) (fun _ U U' hal hh h => ⟨h.1, h.2.1.mv hal hh, h.2.2⟩) (fun r U U' V V' h1 hal h2 h => ⟨NewArr.mv r U U' V V' h1 hal h2 h.1, by rw [h1, h2]; exact h.2⟩) ?_
  intro p e s m args below meth c s₁ X0 hexec hbytes hml hret hlk hnm hown hh0 W hP
  obtain ⟨rfl, hA, l1, l2, hp⟩ := hP
  have a31 := hA.1.2.2.2
  have c1 : Steps p.tables e below (s₁.setTop (entryFrame m #[.ref b, .int (Int32.ofNat o), .int (Int32.ofNat len)] 6)) (s₁.setTop (mkF m 0 #[.val (.ref b), .val (.int (Int32.ofNat o)), .val (.int (Int32.ofNat len)), .unset, .unset, .unset] [])) := entry rfl
  have c2 : Steps p.tables e below (s₁.setTop (entryFrame m #[.ref b, .int (Int32.ofNat o), .int (Int32.ofNat len)] 6)) (s₁.setTop (mkF m 1 #[.val (.ref b), .val (.int (Int32.ofNat o)), .val (.int (Int32.ofNat len)), .unset, .unset, .unset] [.int (Int32.ofNat len)])) := c1.trans (by
    refine XS.iloadN X0.here hexec rfl (hb hbytes d0) rfl ?_
    exact Steps.refl _)
  obtain ⟨T3, B3, X3, ba3, bs3, bv3, bh3, bf3, st3⟩ := X0.anew hexec (atype := .byte) (wk W (.arrayClass .byte)) rfl (by show len * 1 ≤ _; omega) (by omega) (g := (mkF m 1 #[.val (.ref b), .val (.int (Int32.ofNat o)), .val (.int (Int32.ofNat len)), .unset, .unset, .unset] [.int (Int32.ofNat len)])) rfl (hb hbytes d1) (rest := []) rfl (Nat.le_refl _) (by show 0 + len ≤ len; omega)
  rw [hh0] at ba3 st3
  have kp3 : XT.Kept s T3 := (XT.Kept.of_eq hh0).push bh3
  have hA3 := hA.keep X3.warmed.alike (kp3 _ _ hA.1.1)
  have hne : b ≠ s.heap.size := hA.1.ne
  have c4 : Steps p.tables e below (s₁.setTop (entryFrame m #[.ref b, .int (Int32.ofNat o), .int (Int32.ofNat len)] 6)) (T3.setTop (mkF m 3 #[.val (.ref b), .val (.int (Int32.ofNat o)), .val (.int (Int32.ofNat len)), .unset, .unset, .unset] [.ref s.heap.size])) := c2.trans (st3 _ (Steps.refl _))
  have c5 : Steps p.tables e below (s₁.setTop (entryFrame m #[.ref b, .int (Int32.ofNat o), .int (Int32.ofNat len)] 6)) (T3.setTop (mkF m 9 #[.val (.ref b), .val (.int (Int32.ofNat o)), .val (.int (Int32.ofNat len)), .val (.ref s.heap.size), .unset, .unset] [.int (Int32.ofNat len), .int 0, .ref s.heap.size, .int (Int32.ofNat o), .ref b])) := c4.trans (by
    refine XS.astoreN X3.here hexec rfl (hb hbytes d3) rfl rfl rfl ?_
    refine XS.aloadN X3.here hexec rfl (hb hbytes d4) rfl rfl ?_
    refine XS.iloadN X3.here hexec rfl (hb hbytes d5) rfl ?_
    refine XS.aloadN X3.here hexec rfl (hb hbytes d6) rfl rfl ?_
    refine iconstV X3.here hexec rfl 0 (hb hbytes d7) (by decide) ?_
    refine XS.iloadN X3.here hexec rfl (hb hbytes d8) rfl ?_
    exact Steps.refl _)
  obtain ⟨v6, T6, X6, E6, g6⟩ := X3.callS hexec (Cmp5.law l b A s.heap.size B3 o 0 len) hown (wks W (staticW U16 115 Cmp5.yN)) (wk W Cmp5.tab) (W := 0) (Nat.le_of_ble_eq_true rfl) (Nat.le_of_ble_eq_true rfl) (Nat.le_refl _) (by show 0 + len + 0 ≤ len; omega) (g := (mkF m 9 #[.val (.ref b), .val (.int (Int32.ofNat o)), .val (.int (Int32.ofNat len)), .val (.ref s.heap.size), .unset, .unset] [.int (Int32.ofNat len), .int (Int32.ofNat 0), .ref s.heap.size, .int (Int32.ofNat o), .ref b])) rfl (by rw [hml]; rfl) c5 (argsL := [.ref b, .int (Int32.ofNat o), .ref s.heap.size, .int (Int32.ofNat 0), .int (Int32.ofNat len)]) (rest := []) rfl rfl (by show 2 * 0 + 0 ≤ _; decide) (hb hbytes d9) (⟨rfl, hA3, ba3, hne, l1, by rw [bs3]; simp, hp⟩)
  obtain ⟨rfl, B6, p6, f6⟩ := E6
  have c7 : Steps p.tables e below (s₁.setTop (entryFrame m #[.ref b, .int (Int32.ofNat o), .int (Int32.ofNat len)] 6)) (T6.setTop (mkF m 12 #[.val (.ref b), .val (.int (Int32.ofNat o)), .val (.int (Int32.ofNat len)), .val (.ref s.heap.size), .unset, .unset] [.int (Int32.ofNat len)])) := g6
  have c8 : Steps p.tables e below (s₁.setTop (entryFrame m #[.ref b, .int (Int32.ofNat o), .int (Int32.ofNat len)] 6)) (T6.setTop (mkF m 58 #[.val (.ref b), .val (.int (Int32.ofNat o)), .val (.int (Int32.ofNat len)), .val (.ref s.heap.size), .val (.int (Int32.ofNat len)), .unset] [.ref s.heap.size])) := c7.trans (by
    refine XS.istore X6.here hexec rfl (hb hbytes d12) rfl rfl ?_
    refine XS.iload X6.here hexec rfl (hb hbytes d14) rfl ?_
    refine XS.iloadN X6.here hexec rfl (hb hbytes d16) rfl ?_
    refine XS.icmpYes X6.here hexec rfl (pc0 := 17) rfl (hb hbytes d17) rfl (ii_eq_t rfl) (by decide) rfl ?_
    refine XS.aloadN X6.here hexec rfl (hb hbytes d57) rfl rfl ?_
    exact Steps.refl _)
  have X8 := X6.wide (L' := []) (cells' := 1) (slots' := len) (fun x hx hlt => by
    simp only [List.nil_append, copyLocs, List.mem_map, List.mem_range] at hx
    obtain ⟨i, -, rfl⟩ := hx
    exact absurd hlt (Nat.lt_irrefl _)) (Nat.le_refl _) (by omega)
  exact ⟨T6, some (.ref s.heap.size), _, _, _, X8, rfl, rfl, rfl, (fun h => by cases h), ⟨⟨rfl, B6, ba3.like (X3.warmed.alike.symm.trans X6.warmed.alike) p6.1 f6.1 f6.2.1 f6.2.2.1, f6.2.1.trans bv3, by rw [X6.warmed.alike.findClass, f6.1]; exact bf3, by rw [f6.2.2.1, bs3]; simp, fun j hj => by rw [f6.2.2.2 j, if_pos (by omega)]; rfl, kp3.put p6 (Nat.le_refl _)⟩, by rw [p6.2.2, bh3, hh0]; simp⟩, fun fs hl => c8.trans (X8.areturnOut hexec rfl hret rfl (hb hbytes d58) hl)⟩
end Cmp3
namespace CodL
def yN : MethodName := ⟨"java/lang/StringUTF16", "coderFromArrayLen", "([BI)B"⟩
abbrev yB : ByteArray := jdk_52_method_15_code
theorem d0 : decode yB 0 = .ok (.iload_n 1, 1) := by decide +kernel
theorem d1 : decode yB 1 = .ok (.aload_n 0, 1) := by decide +kernel
theorem d2 : decode yB 2 = .ok (.arraylength, 1) := by decide +kernel
theorem d3 : decode yB 3 = .ok (.isub, 1) := by decide +kernel
theorem d4 : decode yB 4 = .ok (.bipush 31, 2) := by decide +kernel
theorem d6 : decode yB 6 = .ok (.iushr, 1) := by decide +kernel
theorem d7 : decode yB 7 = .ok (.i2b, 1) := by decide +kernel
theorem d8 : decode yB 8 = .ok (.ireturn, 1) := by decide +kernel
def site : List Cond := []
def tab : Cond := tabOf yN yB 2 (some .byte) site
def P (d : Addr) (B : Cell) (args : Array Value) (s : State) : Prop := args = #[.ref d, .int (Int32.ofNat B.slots.size)] ∧ Arr .byte d B s
def E (r : Option Value) (s u : State) : Prop := XT.PureE (some (.int 0)) r s u
/-- an array as long as the number of chars: LATIN1 -/
theorem law (l : Launch) (d : Addr) (B : Cell) : Law l yN 2 2 0 0 yB 2 (some .byte) site (P d B) E [] 0 0 := by
  refine Law.of_walk (plainFor_of_name (by decide +kernel)) (by decide +kernel) (by decide +kernel) (by decide) (fun _ _ h => by rw [h.1]; rfl) (fun _ U U' hal hh h => ⟨h.1, h.2.mv hal hh⟩) (fun r U U' V V' h1 hal h2 h => XT.PureE.mv r U U' V V' h1 hal h2 h) ?_
  intro p e s m args below meth c s₁ X0 hexec hbytes hml hret hlk hnm hown hh0 W hP
  obtain ⟨rfl, hB⟩ := hP
  have hB0 := hB.mv X0.warmed.alike hh0
  have c1 : Steps p.tables e below (s₁.setTop (entryFrame m #[.ref d, .int (Int32.ofNat B.slots.size)] 2)) (s₁.setTop (mkF m 0 #[.val (.ref d), .val (.int (Int32.ofNat B.slots.size))] [])) := entry rfl
  have c2 : Steps p.tables e below (s₁.setTop (entryFrame m #[.ref d, .int (Int32.ofNat B.slots.size)] 2)) (s₁.setTop (mkF m 2 #[.val (.ref d), .val (.int (Int32.ofNat B.slots.size))] [.ref d, .int (Int32.ofNat B.slots.size)])) := c1.trans (by
    refine XS.iloadN X0.here hexec rfl (hb hbytes d0) rfl ?_
    refine XS.aloadN X0.here hexec rfl (hb hbytes d1) rfl rfl ?_
    exact Steps.refl _)
  have c3 : Steps p.tables e below (s₁.setTop (entryFrame m #[.ref d, .int (Int32.ofNat B.slots.size)] 2)) (s₁.setTop (mkF m 8 #[.val (.ref d), .val (.int (Int32.ofNat B.slots.size))] [.int (lo8 (ushr (Int32.ofNat B.slots.size - Int32.ofNat B.slots.size) 31))])) := c2.trans (by
    refine X0.alen hexec hB0 rfl rfl (hb hbytes d2) ?_
    refine XS.isub X0.here hexec rfl (hb hbytes d3) rfl ?_
    refine bipushV X0.here hexec rfl 31 (hb hbytes d4) (by decide) ?_
    refine iushr X0.here hexec rfl (hb hbytes d6) rfl ?_
    refine i2b X0.here hexec rfl (hb hbytes d7) rfl ?_
    exact Steps.refl _)
  have e0 : lo8 (ushr (Int32.ofNat B.slots.size - Int32.ofNat B.slots.size) 31) = 0 := by rw [Int32.sub_self]; decide
  rw [e0] at c3
  exact ⟨s₁, some (.int 0), _, _, _, X0, rfl, rfl, rfl, (fun h => by cases h), ⟨rfl, hh0⟩, fun fs hl => c3.trans (X0.ireturnOut hexec hret rfl (Or.inr (Or.inr (Or.inl rfl))) (hb hbytes d8) hl)⟩
end CodL
/-- the String at a is Latin-1 over a new byte[] (the heap's one new cell): the low bytes of the len chars of A from o on; every cell but a is kept -/
def Got (a : Addr) (D : Cell) (fV fC : Field) (A : Cell) (o len : Nat) (r : Option Value) (s u : State) : Prop := r = none ∧ ∃ D' V : Cell, Blank "java/lang/String" a D' u ∧ Same D D' [fV.slot, fC.slot] ∧ D'.slots[fV.slot]? = some (.ref s.heap.size) ∧ D'.slots[fC.slot]? = some (.int 0) ∧ Arr .byte s.heap.size V u ∧ V.vm = .none ∧ u.vm.findClass "[B" = some V.cls ∧ V.slots.size = len ∧ (∀ j, j < len → V.slots[j]? = some (.int (lo8 (cv A (o + j))))) ∧ (∀ (y : Addr) (c : Cell), y ≠ a → s.heap[y]? = some c → u.heap[y]? = some c) ∧ u.heap.size = s.heap.size + 1
theorem Got.mv {a : Addr} {D A : Cell} {fV fC : Field} {o len : Nat} : ∀ r (U U' V V' : State), U'.heap = U.heap → V.vm.Alike V'.vm → V'.heap = V.heap → Got a D fV fC A o len r U V → Got a D fV fC A o len r U' V' :=
  fun r U U' V V' h1 hal h2 ⟨e0, D', X, a1, a2, a3, a4, a5, a6, a7, a8, a9, a10, a11⟩ => ⟨e0, D', X, a1.mv hal h2, a2, by rw [h1]; exact a3, a4, by rw [h1]; exact a5.mv hal h2, a6, by rw [hal.findClass]; exact a7, a8, a9, by rw [h1, h2]; exact a10, by rw [h1, h2]; exact a11⟩
namespace New4
def yN : MethodName := ⟨"java/lang/String", "<init>", "([CIILjava/lang/Void;)V"⟩
abbrev yB : ByteArray := jdk_42_method_149_code
theorem d0 : decode yB 0 = .ok (.aload_n 0, 1) := by decide +kernel
theorem d1 : decode yB 1 = .ok (.invokespecial 1, 3) := by decide +kernel
theorem d4 : decode yB 4 = .ok (.iload_n 3, 1) := by decide +kernel
theorem d5 : decode yB 5 = .ok (.ifCond (.ne) 22, 3) := by decide +kernel
theorem d27 : decode yB 27 = .ok (.getstatic 38, 3) := by decide +kernel
theorem d30 : decode yB 30 = .ok (.ifCond (.eq) 28, 3) := by decide +kernel
theorem d33 : decode yB 33 = .ok (.aload_n 1, 1) := by decide +kernel
theorem d34 : decode yB 34 = .ok (.iload_n 2, 1) := by decide +kernel
theorem d35 : decode yB 35 = .ok (.iload_n 3, 1) := by decide +kernel
theorem d36 : decode yB 36 = .ok (.invokestatic 177, 3) := by decide +kernel
theorem d39 : decode yB 39 = .ok (.astore 5, 2) := by decide +kernel
theorem d41 : decode yB 41 = .ok (.aload_n 0, 1) := by decide +kernel
theorem d42 : decode yB 42 = .ok (.aload 5, 2) := by decide +kernel
theorem d44 : decode yB 44 = .ok (.iload_n 3, 1) := by decide +kernel
theorem d45 : decode yB 45 = .ok (.invokestatic 47, 3) := by decide +kernel
theorem d48 : decode yB 48 = .ok (.putfield 15, 3) := by decide +kernel
theorem d51 : decode yB 51 = .ok (.aload_n 0, 1) := by decide +kernel
theorem d52 : decode yB 52 = .ok (.aload 5, 2) := by decide +kernel
theorem d54 : decode yB 54 = .ok (.putfield 9, 3) := by decide +kernel
theorem d57 : decode yB 57 = .ok (.return_, 1) := by decide +kernel
def site : List Cond := [.fieldLink "java/lang/String" 38 "java/lang/String" "COMPACT_STRINGS" "Z", Cmp3.tab, CodL.tab, .laysFinal "java/lang/String" "java/lang/String" "value" "[B", .fieldLink "java/lang/String" 9 "java/lang/String" "value" "[B", .laysFinal "java/lang/String" "java/lang/String" "coder" "B", .fieldLink "java/lang/String" 15 "java/lang/String" "coder" "B"] ++ objW "java/lang/String" 1 ++ staticW "java/lang/String" 177 Cmp3.yN ++ staticW "java/lang/String" 47 CodL.yN
def tab : Cond := tabOf yN yB 6 none site
def P (a : Addr) (D : Cell) (fV fC : Field) (b : Addr) (A : Cell) (z : Int32) (o len : Nat) (args : Array Value) (s : State) : Prop := args = #[.ref a, .ref b, .int (Int32.ofNat o), .int (Int32.ofNat len), .null] ∧ Blank "java/lang/String" a D s ∧ Found "java/lang/String" "value" "[B" fV s ∧ Found "java/lang/String" "coder" "B" fC s ∧ Ch b A s ∧ StaticIs s "java/lang/String" "COMPACT_STRINGS" "Z" (.int z) ∧ ¬ z = 0 ∧ 0 < len ∧ o + len ≤ A.slots.size ∧ len ≤ 536870912 ∧ ∀ i, i < len → ¬ 255 < cv A (o + i)
def E (a : Addr) (D : Cell) (fV fC : Field) (A : Cell) (o len : Nat) (r : Option Value) (s u : State) : Prop := Got a D fV fC A o len r s u
/-- len > 0, no char of the range above 255: a Latin-1 String of their low bytes -/
theorem law (l : Launch) (a : Addr) (D : Cell) (fV fC : Field) (b : Addr) (A : Cell) (z : Int32) (o len : Nat) : Law l yN 5 4 2 35 yB 6 none site (P a D fV fC b A z o len) (E a D fV fC A o len) [⟨a, fC.slot⟩, ⟨a, fV.slot⟩] 1 len := by
  refine Law.of_walk (plainFor_of_name (by decide +kernel)) (by decide +kernel) (by decide +kernel) (by decide) (fun _ _ h => by rw [h.1]; rfl) (fun _ U U' hal hh h => ⟨h.1, h.2.1.mv hal hh, h.2.2.1.al hal, h.2.2.2.1.al hal, h.2.2.2.2.1.mv hal hh, h.2.2.2.2.2.1.there hal hh, h.2.2.2.2.2.2⟩) (fun r U U' V V' h1 hal h2 h => Got.mv r U U' V V' h1 hal h2 h) ?_
  intro p e s m args below meth c s₁ X0 hexec hbytes hml hret hlk hnm hown hh0 W hP
  obtain ⟨rfl, hB, f1, f2, hA, s1, hz, l0, l1, l2, hp⟩ := hP
  have a31 := hA.1.2.2.2
  have c1 : Steps p.tables e below (s₁.setTop (entryFrame m #[.ref a, .ref b, .int (Int32.ofNat o), .int (Int32.ofNat len), .null] 6)) (s₁.setTop (mkF m 0 #[.val (.ref a), .val (.ref b), .val (.int (Int32.ofNat o)), .val (.int (Int32.ofNat len)), .val .null, .unset] [])) := entry rfl
  have c2 : Steps p.tables e below (s₁.setTop (entryFrame m #[.ref a, .ref b, .int (Int32.ofNat o), .int (Int32.ofNat len), .null] 6)) (s₁.setTop (mkF m 1 #[.val (.ref a), .val (.ref b), .val (.int (Int32.ofNat o)), .val (.int (Int32.ofNat len)), .val .null, .unset] [.ref a])) := c1.trans (by
    refine XS.aloadN X0.here hexec rfl (hb hbytes d0) rfl rfl ?_
    exact Steps.refl _)
  obtain ⟨T3, X3, q3, st3⟩ := X0.oinit hexec hown (wks W (objW "java/lang/String" 1)) (g := (mkF m 1 #[.val (.ref a), .val (.ref b), .val (.int (Int32.ofNat o)), .val (.int (Int32.ofNat len)), .val .null, .unset] [.ref a])) rfl (by rw [hml]; rfl) (rest := []) rfl (hb hbytes d1) (W := 0) (by show 2 * 0 + 0 ≤ _; decide) (Nat.le_of_ble_eq_true rfl) (Nat.le_of_ble_eq_true rfl)
  have hh3 := q3.trans hh0
  have c4 : Steps p.tables e below (s₁.setTop (entryFrame m #[.ref a, .ref b, .int (Int32.ofNat o), .int (Int32.ofNat len), .null] 6)) (T3.setTop (mkF m 27 #[.val (.ref a), .val (.ref b), .val (.int (Int32.ofNat o)), .val (.int (Int32.ofNat len)), .val .null, .unset] [])) := (c2.trans (st3 _ (Steps.refl _))).trans (by
    refine XS.iloadN X3.here hexec rfl (hb hbytes d4) rfl ?_
    refine XS.ifYes X3.here hexec rfl (pc0 := 5) rfl (hb hbytes d5) rfl (i0_ne_t (nz32 (by omega) l0)) (by decide) rfl ?_
    exact Steps.refl _)
  obtain ⟨T5, X5, q5, st5⟩ := X3.sget hexec hown (wk W (.fieldLink "java/lang/String" 38 "java/lang/String" "COMPACT_STRINGS" "Z")) s1 (fun _ _ h => by rw [hh3]; exact h) (g := (mkF m 27 #[.val (.ref a), .val (.ref b), .val (.int (Int32.ofNat o)), .val (.int (Int32.ofNat len)), .val .null, .unset] [])) rfl (hb hbytes d27)
  have hh5 := q5.trans hh3
  have c6 : Steps p.tables e below (s₁.setTop (entryFrame m #[.ref a, .ref b, .int (Int32.ofNat o), .int (Int32.ofNat len), .null] 6)) (T5.setTop (mkF m 30 #[.val (.ref a), .val (.ref b), .val (.int (Int32.ofNat o)), .val (.int (Int32.ofNat len)), .val .null, .unset] [.int z])) := c4.trans (st5 _ (Steps.refl _))
  have c7 : Steps p.tables e below (s₁.setTop (entryFrame m #[.ref a, .ref b, .int (Int32.ofNat o), .int (Int32.ofNat len), .null] 6)) (T5.setTop (mkF m 36 #[.val (.ref a), .val (.ref b), .val (.int (Int32.ofNat o)), .val (.int (Int32.ofNat len)), .val .null, .unset] [.int (Int32.ofNat len), .int (Int32.ofNat o), .ref b])) := c6.trans (by
    refine XS.ifNo X5.here hexec rfl (hb hbytes d30) rfl (i0_eq_f hz) ?_
    refine XS.aloadN X5.here hexec rfl (hb hbytes d33) rfl rfl ?_
    refine XS.iloadN X5.here hexec rfl (hb hbytes d34) rfl ?_
    refine XS.iloadN X5.here hexec rfl (hb hbytes d35) rfl ?_
    exact Steps.refl _)
  obtain ⟨v8, T8, X8, E8, g8⟩ := X5.callS hexec (Cmp3.law l b A o len) hown (wks W (staticW "java/lang/String" 177 Cmp3.yN)) (wk W Cmp3.tab) (W := 0) (Nat.le_of_ble_eq_true rfl) (Nat.le_of_ble_eq_true rfl) (Nat.le_refl _) (by show 0 + len ≤ len; omega) (g := (mkF m 36 #[.val (.ref a), .val (.ref b), .val (.int (Int32.ofNat o)), .val (.int (Int32.ofNat len)), .val .null, .unset] [.int (Int32.ofNat len), .int (Int32.ofNat o), .ref b])) rfl (by rw [hml]; rfl) c7 (argsL := [.ref b, .int (Int32.ofNat o), .int (Int32.ofNat len)]) (rest := []) rfl rfl (by show 2 * 0 + 0 ≤ _; decide) (hb hbytes d36) (⟨rfl, hA.mv X5.warmed.alike hh5, l1, l2, hp⟩)
  obtain ⟨e8, z8⟩ := E8
  obtain ⟨rfl, N, n1, n2, n3, n4, n5, n6⟩ := NewArr.mv _ T5 s _ _ hh5.symm (Vm.Alike.refl _) rfl e8
  rw [hh5] at z8
  have hB1 := hB.keep X8.warmed.alike (n6 _ _ hB.1)
  have hne : s.heap.size ≠ a := (Nat.ne_of_lt (Array.getElem?_eq_some_iff.mp hB.1).1).symm
  have c9 : Steps p.tables e below (s₁.setTop (entryFrame m #[.ref a, .ref b, .int (Int32.ofNat o), .int (Int32.ofNat len), .null] 6)) (T8.setTop (mkF m 39 #[.val (.ref a), .val (.ref b), .val (.int (Int32.ofNat o)), .val (.int (Int32.ofNat len)), .val .null, .unset] [.ref s.heap.size])) := g8
  have c10 : Steps p.tables e below (s₁.setTop (entryFrame m #[.ref a, .ref b, .int (Int32.ofNat o), .int (Int32.ofNat len), .null] 6)) (T8.setTop (mkF m 45 #[.val (.ref a), .val (.ref b), .val (.int (Int32.ofNat o)), .val (.int (Int32.ofNat len)), .val .null, .val (.ref s.heap.size)] [.int (Int32.ofNat N.slots.size), .ref s.heap.size, .ref a])) := by
    have hc : Steps p.tables e below (s₁.setTop (entryFrame m #[.ref a, .ref b, .int (Int32.ofNat o), .int (Int32.ofNat len), .null] 6)) (T8.setTop (mkF m 45 #[.val (.ref a), .val (.ref b), .val (.int (Int32.ofNat o)), .val (.int (Int32.ofNat len)), .val .null, .val (.ref s.heap.size)] [.int (Int32.ofNat len), .ref s.heap.size, .ref a])) := c9.trans (by
      refine XS.astore X8.here hexec rfl (hb hbytes d39) rfl rfl rfl ?_
      refine XS.aloadN X8.here hexec rfl (hb hbytes d41) rfl rfl ?_
      refine XS.aload X8.here hexec rfl (hb hbytes d42) rfl rfl ?_
      refine XS.iloadN X8.here hexec rfl (hb hbytes d44) rfl ?_
      exact Steps.refl _)
    rw [n4]; exact hc
  obtain ⟨v11, T11, X11, E11, g11⟩ := X8.callS hexec (CodL.law l s.heap.size N) hown (wks W (staticW "java/lang/String" 47 CodL.yN)) (wk W CodL.tab) (W := 1) (Nat.le_of_ble_eq_true rfl) (Nat.le_of_ble_eq_true rfl) (Nat.le_refl _) (by show 0 + len + 0 ≤ len; omega) (g := (mkF m 45 #[.val (.ref a), .val (.ref b), .val (.int (Int32.ofNat o)), .val (.int (Int32.ofNat len)), .val .null, .val (.ref s.heap.size)] [.int (Int32.ofNat N.slots.size), .ref s.heap.size, .ref a])) rfl (by rw [hml]; rfl) c10 (argsL := [.ref s.heap.size, .int (Int32.ofNat N.slots.size)]) (rest := [.ref a]) rfl rfl (by show 2 * 0 + (1 + 0) ≤ _; decide) (hb hbytes d45) (⟨rfl, n1⟩)
  obtain ⟨rfl, q11⟩ := E11
  have hB11 := hB1.mv (X8.warmed.alike.symm.trans X11.warmed.alike) q11
  have c12 : Steps p.tables e below (s₁.setTop (entryFrame m #[.ref a, .ref b, .int (Int32.ofNat o), .int (Int32.ofNat len), .null] 6)) (T11.setTop (mkF m 48 #[.val (.ref a), .val (.ref b), .val (.int (Int32.ofNat o)), .val (.int (Int32.ofNat len)), .val .null, .val (.ref s.heap.size)] [.int 0, .ref a])) := g11
  obtain ⟨T13, X13, p13, bl13, sl13, st13⟩ := X11.finit hexec hown (wk W (.fieldLink "java/lang/String" 15 "java/lang/String" "coder" "B")) (Or.inr ⟨_, (wk W (.laysFinal "java/lang/String" "java/lang/String" "coder" "B"))⟩) (Or.inl ⟨rfl, hnm⟩) f2 (Or.inl rfl) hB11 (t := .byte) (by decide +kernel) rfl (g := (mkF m 48 #[.val (.ref a), .val (.ref b), .val (.int (Int32.ofNat o)), .val (.int (Int32.ofNat len)), .val .null, .val (.ref s.heap.size)] [.int 0, .ref a])) rfl (rest := []) rfl (hb hbytes d48)
  have c14 : Steps p.tables e below (s₁.setTop (entryFrame m #[.ref a, .ref b, .int (Int32.ofNat o), .int (Int32.ofNat len), .null] 6)) (T13.setTop (mkF m 54 #[.val (.ref a), .val (.ref b), .val (.int (Int32.ofNat o)), .val (.int (Int32.ofNat len)), .val .null, .val (.ref s.heap.size)] [.ref s.heap.size, .ref a])) := (c12.trans (st13 _ (Steps.refl _))).trans (by
    refine XS.aloadN X13.here hexec rfl (hb hbytes d51) rfl rfl ?_
    refine XS.aload X13.here hexec rfl (hb hbytes d52) rfl rfl ?_
    exact Steps.refl _)
  obtain ⟨T15, X15, p15, bl15, sl15, st15⟩ := X13.finit hexec hown (wk W (.fieldLink "java/lang/String" 9 "java/lang/String" "value" "[B")) (Or.inr ⟨_, (wk W (.laysFinal "java/lang/String" "java/lang/String" "value" "[B"))⟩) (Or.inl ⟨rfl, hnm⟩) f1 (Or.inl rfl) bl13 (t := (.array .byte)) (by decide +kernel) rfl (g := (mkF m 54 #[.val (.ref a), .val (.ref b), .val (.int (Int32.ofNat o)), .val (.int (Int32.ofNat len)), .val .null, .val (.ref s.heap.size)] [.ref s.heap.size, .ref a])) rfl (rest := []) rfl (hb hbytes d54)
  have c16 : Steps p.tables e below (s₁.setTop (entryFrame m #[.ref a, .ref b, .int (Int32.ofNat o), .int (Int32.ofNat len), .null] 6)) (T15.setTop (mkF m 57 #[.val (.ref a), .val (.ref b), .val (.int (Int32.ofNat o)), .val (.int (Int32.ofNat len)), .val .null, .val (.ref s.heap.size)] [])) := c14.trans (st15 _ (Steps.refl _))
  have ap := apart (Or.inr ⟨_, (wk W (.laysFinal "java/lang/String" "java/lang/String" "value" "[B"))⟩) (Or.inr ⟨_, (wk W (.laysFinal "java/lang/String" "java/lang/String" "coder" "B"))⟩) f1 f2 (t₁ := .array .byte) (t₂ := .byte) (by decide +kernel) (by decide +kernel) (by decide)
  have al := X8.warmed.alike.symm.trans X15.warmed.alike
  have n7 : T11.heap[s.heap.size]? = some N := by rw [q11]; exact n1.1
  exact ⟨T15, none, _, _, _, X15, by simp, rfl, by omega, (fun _ => rfl), ⟨rfl, _, N, bl15, ((Same.refl D _).set _ (by simp)).set _ (by simp), sl15, (Cell.slots_setSlot_ne _ ap).trans sl13, n1.keep al (p15.other hne (p13.other hne n7)), n2, by rw [al.findClass]; exact n3, n4, n5, fun y c h1 h2 => p15.other h1 (p13.other h1 (by rw [q11]; exact n6 y c h2)), by rw [p15.2.2, p13.2.2, q11]; exact z8⟩, fun fs hl => c16.trans (X15.returnOut hexec hret (hb hbytes d57) hl)⟩
end New4
namespace New1
def yN : MethodName := ⟨"java/lang/String", "<init>", "([C)V"⟩
abbrev yB : ByteArray := jdk_42_method_3_code
theorem d0 : decode yB 0 = .ok (.aload_n 0, 1) := by decide +kernel
theorem d1 : decode yB 1 = .ok (.aload_n 1, 1) := by decide +kernel
theorem d2 : decode yB 2 = .ok (.iconst 0, 1) := by decide +kernel
theorem d3 : decode yB 3 = .ok (.aload_n 1, 1) := by decide +kernel
theorem d4 : decode yB 4 = .ok (.arraylength, 1) := by decide +kernel
theorem d5 : decode yB 5 = .ok (.aconst_null, 1) := by decide +kernel
theorem d6 : decode yB 6 = .ok (.invokespecial 27, 3) := by decide +kernel
theorem d9 : decode yB 9 = .ok (.return_, 1) := by decide +kernel
def site : List Cond := [New4.tab] ++ initW "java/lang/String" 27 New4.yN
def tab : Cond := tabOf yN yB 2 none site
def P (a : Addr) (D : Cell) (fV fC : Field) (b : Addr) (A : Cell) (z : Int32) (args : Array Value) (s : State) : Prop := args = #[.ref a, .ref b] ∧ Blank "java/lang/String" a D s ∧ Found "java/lang/String" "value" "[B" fV s ∧ Found "java/lang/String" "coder" "B" fC s ∧ Ch b A s ∧ StaticIs s "java/lang/String" "COMPACT_STRINGS" "Z" (.int z) ∧ ¬ z = 0 ∧ 0 < A.slots.size ∧ A.slots.size ≤ 536870912 ∧ ∀ i, i < A.slots.size → ¬ 255 < cv A i
def E (a : Addr) (D : Cell) (fV fC : Field) (A : Cell) (r : Option Value) (s u : State) : Prop := Got a D fV fC A 0 A.slots.size r s u
/-- new String(chars), not empty, no char above 255: a Latin-1 String of their low bytes -/
theorem law (l : Launch) (a : Addr) (D : Cell) (fV fC : Field) (b : Addr) (A : Cell) (z : Int32) : Law l yN 2 1 3 52 yB 2 none site (P a D fV fC b A z) (E a D fV fC A) [⟨a, fC.slot⟩, ⟨a, fV.slot⟩] 1 A.slots.size := by
  refine Law.of_walk (plainFor_of_name (by decide +kernel)) (by decide +kernel) (by decide +kernel) (by decide) (fun _ _ h => by rw [h.1]; rfl) (fun _ U U' hal hh h => ⟨h.1, h.2.1.mv hal hh, h.2.2.1.al hal, h.2.2.2.1.al hal, h.2.2.2.2.1.mv hal hh, h.2.2.2.2.2.1.there hal hh, h.2.2.2.2.2.2⟩) (fun r U U' V V' h1 hal h2 h => Got.mv r U U' V V' h1 hal h2 h) ?_
  intro p e s m args below meth c s₁ X0 hexec hbytes hml hret hlk hnm hown hh0 W hP
  obtain ⟨rfl, hB, f1, f2, hA, s1, hz, l0, l2, hp⟩ := hP
  have c1 : Steps p.tables e below (s₁.setTop (entryFrame m #[.ref a, .ref b] 2)) (s₁.setTop (mkF m 0 #[.val (.ref a), .val (.ref b)] [])) := entry rfl
  have c2 : Steps p.tables e below (s₁.setTop (entryFrame m #[.ref a, .ref b] 2)) (s₁.setTop (mkF m 6 #[.val (.ref a), .val (.ref b)] [.null, .int (Int32.ofNat A.slots.size), .int 0, .ref b, .ref a])) := c1.trans (by
    refine XS.aloadN X0.here hexec rfl (hb hbytes d0) rfl rfl ?_
    refine XS.aloadN X0.here hexec rfl (hb hbytes d1) rfl rfl ?_
    refine iconstV X0.here hexec rfl 0 (hb hbytes d2) (by decide) ?_
    refine XS.aloadN X0.here hexec rfl (hb hbytes d3) rfl rfl ?_
    refine X0.alen hexec (hA.1.mv X0.warmed.alike hh0) rfl rfl (hb hbytes d4) ?_
    refine XS.aconstNull X0.here hexec rfl (hb hbytes d5) ?_
    exact Steps.refl _)
  obtain ⟨v3, T3, X3, E3, g3⟩ := X0.callN hexec (New4.law l a D fV fC b A z 0 A.slots.size) rfl hown (wks W (initW "java/lang/String" 27 New4.yN)) (W New4.tab (by simp only [site, List.mem_cons, List.mem_append, true_or, or_true])) (W := 0) (Nat.le_of_ble_eq_true rfl) (Nat.le_of_ble_eq_true rfl) (Nat.le_refl _) (by show 0 + A.slots.size ≤ A.slots.size; omega) (g := (mkF m 6 #[.val (.ref a), .val (.ref b)] [.null, .int (Int32.ofNat A.slots.size), .int (Int32.ofNat 0), .ref b, .ref a])) rfl (by rw [hml]; rfl) c2 (argsL := [.ref b, .int (Int32.ofNat 0), .int (Int32.ofNat A.slots.size), .null]) (rest := []) rfl rfl (by show 2 * 0 + 0 ≤ _; decide) (hb hbytes d6) (⟨rfl, hB.mv X0.warmed.alike hh0, f1.al X0.warmed.alike, f2.al X0.warmed.alike, hA.mv X0.warmed.alike hh0, s1.there X0.warmed.alike hh0, hz, l0, by omega, l2, fun i hi => by rw [Nat.zero_add]; exact hp i hi⟩)
  have e0 := Got.mv _ s₁ s _ _ hh0.symm (Vm.Alike.refl _) rfl E3
  obtain rfl := e0.1
  have c4 : Steps p.tables e below (s₁.setTop (entryFrame m #[.ref a, .ref b] 2)) (T3.setTop (mkF m 9 #[.val (.ref a), .val (.ref b)] [])) := g3
  exact ⟨T3, none, _, _, _, X3, by simp, rfl, by omega, (fun _ => rfl), e0, fun fs hl => c4.trans (X3.returnOut hexec hret (hb hbytes d9) hl)⟩
theorem pays {l : Launch} {R : Room} {p : Program} {e : Env} {below : List Frame} {s : State} {sargs : Array Value} {len W : Nat} (a : Addr) (D : Cell) (fV fC : Field) (b : Addr) (A : Cell) (z : Int32) (htab : tab.before sargs s = true) (hfr : 4 ≤ R.frames) (hlo : W + 65 ≤ R.locals) :
    Back l R p e below s sargs yN len W (fun A₁ a₁ => A₁.cells + 1 ≤ R.cells ∧ A₁.slots + A.slots.size ≤ R.slots ∧ P a D fV fC b A z a₁ A₁.U) (fun A₁ _ v₁ B₁ => E a D fV fC A v₁ A₁.U B₁.U ∧ B₁.locs = A₁.locs ++ [⟨a, fC.slot⟩, ⟨a, fV.slot⟩] ∧ B₁.cells = A₁.cells + 1 ∧ B₁.slots = A₁.slots + A.slots.size) :=
  (law l a D fV fC b A z).pays htab hfr (by omega)
end New1
end StrChars
namespace StrChars.Road
open Jvm Sem ClassFile Op Lib Jvm.Stand Jvm.Free Jvm.Free.XT
open Jvm.Lib.Cold (StaticIs)
abbrev ST : String := "java/lang/String"
/-- every table word that New1's law asks, flat -/
abbrev words : List Jvm.Cond := [.code New1.yN New1.yB 2 none, .initialized ST, .methodLink ST 27 New4.yN, .instanceMethod New4.yN,
  .code New4.yN New4.yB 6 none, .fieldLink ST 38 ST "COMPACT_STRINGS" "Z", .laysFinal ST ST "value" "[B", .fieldLink ST 9 ST "value" "[B", .laysFinal ST ST "coder" "B", .fieldLink ST 15 ST "coder" "B",
  .methodLink ST 1 Lib.objectInit, .instanceMethod Lib.objectInit, .code Lib.objectInit ⟨#[0xb1]⟩ 1 none, .methodLink ST 177 Cmp3.yN, .static Cmp3.yN, .methodLink ST 47 CodL.yN, .static CodL.yN,
  .code Cmp3.yN Cmp3.yB 6 (some (.array .byte)), .initialized U16, .arrayClass .byte, .methodLink U16 115 Cmp5.yN, .static Cmp5.yN, .code Cmp5.yN Cmp5.yB 7 (some .int), .code CodL.yN CodL.yB 2 (some .byte)]
theorem tab_of {a : Array Value} {s : State} (h : ∀ w ∈ words, w.before a s = true) : New1.tab.before a s = true := by
  have h5 : Cmp5.tab.before a s = true := unparts (wk h (.code Cmp5.yN Cmp5.yB 7 (some .int))) (wks h (.initialized Cmp5.yN.cls :: Cmp5.site))
  have hc : CodL.tab.before a s = true := unparts (wk h (.code CodL.yN CodL.yB 2 (some .byte))) (wks h (.initialized CodL.yN.cls :: CodL.site))
  have q5 : ∀ w ∈ Cmp5.tab :: words, w.before a s = true := fun w hw => (List.mem_cons.mp hw).elim (fun e => e ▸ h5) (h w)
  have h3 : Cmp3.tab.before a s = true := unparts (wk q5 (.code Cmp3.yN Cmp3.yB 6 (some (.array .byte)))) (wks q5 (.initialized Cmp3.yN.cls :: Cmp3.site))
  have q3 : ∀ w ∈ Cmp3.tab :: CodL.tab :: words, w.before a s = true := fun w hw => (List.mem_cons.mp hw).elim (fun e => e ▸ h3) fun hw => (List.mem_cons.mp hw).elim (fun e => e ▸ hc) (h w)
  have h4 : New4.tab.before a s = true := unparts (wk q3 (.code New4.yN New4.yB 6 none)) (wks q3 (.initialized New4.yN.cls :: New4.site))
  have q4 : ∀ w ∈ New4.tab :: words, w.before a s = true := fun w hw => (List.mem_cons.mp hw).elim (fun e => e ▸ h4) (h w)
  exact unparts (wk q4 (.code New1.yN New1.yB 2 none)) (wks q4 (.initialized New1.yN.cls :: New1.site))
/-- the words ride from the start Z to the walk's own state -/
theorem moved {Z s : State} {a0 args : Array Value} (hZ : Z.Warmed39 s.vm) (hw : ∀ d ∈ words, d.before a0 Z = true) : ∀ d ∈ words, d.before args s = true := fun d hd => by
  have q := hw d hd
  have t : ∀ d ∈ words, d = .arrayClass .byte ∨ (d.onTables && d.keepsFace) = true := by decide +kernel
  rcases t d hd with rfl | t
  · exact RoadKit.mvA hZ q
  · exact RoadKit.mv hZ q t
/-- WHAT COMES BACK, over the tables of the start Z: h the heap at the call, h' behind it -/
def Q (Z : State) (x : Addr) (A : Cell) (h : Heap) (v : Option Value) (h' : Heap) (L : List Loc) : Prop := v = none ∧ (∀ y ∈ L, y.base = x) ∧ RoadKit.Keep h h' [x] ∧ h'.size = h.size + 1 ∧ RoadKit.Exa Z h' x ST ∧ RoadKit.Fld Z h' x ST "value" "[B" (.ref h.size) ∧ RoadKit.Fld Z h' x ST "coder" "B" (.int 0) ∧
  (∃ V : Cell, RoadKit.Arr Z h' h.size V .byte ∧ V.vm = .none ∧ Z.vm.findClass "[B" = some V.cls ∧ V.slots.size = A.slots.size ∧ ∀ j, j < A.slots.size → V.slots[j]? = some (.int (lo8 (cv A j)))) ∧
  ∀ (O n d : String) (w : Value), RoadKit.Fld Z h x O n d w → RoadKit.slotOf Z O n d ≠ RoadKit.slotOf Z ST "value" "[B" → RoadKit.slotOf Z O n d ≠ RoadKit.slotOf Z ST "coder" "B" → RoadKit.Fld Z h' x O n d w
/-- **new String(chars) AT A CALL, IN THE ROAD'S FORM**: for specialBack behind newO: x the fresh String, b the char[] with the cell A -/
theorem back {p : Program} {l : Launch} {e : Env} {R : Room} {s : State} {args : Array Value} {below : List Frame} {len W : Nat} {Z : State} {a0 : Array Value} {h : Heap} (hZ : Z.Warmed39 s.vm) (hw : ∀ d ∈ words, d.before a0 Z = true) {kI : Nat} (wi : (Jvm.Cond.instantiable ST kI).before a0 Z = true)
    {x b : Addr} {A : Cell} {z : Int32} {v0 c0 : Value} (E : RoadKit.Exa Z h x ST) (V : RoadKit.Fld Z h x ST "value" "[B" v0) (C : RoadKit.Fld Z h x ST "coder" "B" c0) (K : RoadKit.Arr Z h b A .char) (hty : Typed .char A) (S : RoadKit.Sta Z h ST "COMPACT_STRINGS" "Z" (.int z)) (hz : ¬ z = 0)
    (l0 : 0 < A.slots.size) (l2 : A.slots.size ≤ 536870912) (hp : ∀ i, i < A.slots.size → ¬ 255 < cv A i) (hfr : 4 ≤ R.frames) (hlo : W + 65 ≤ R.locals) :
    Back l R p e below s args New1.yN len W (fun P a => a = #[.ref x, .ref b] ∧ P.U.heap = h ∧ P.cells + 1 ≤ R.cells ∧ P.slots + A.slots.size ≤ R.slots)
      (fun P _ v B => ∃ L, Q Z x A h v B.U.heap L ∧ B.locs = P.locs ++ L ∧ B.cells = P.cells + 1 ∧ B.slots = P.slots + A.slots.size) := by
  intro m meth c P g ig mk a X hg hsize hdg hW hn hp'
  obtain ⟨rfl, rfl, r1, r2⟩ := hp'
  have al : Z.vm.Alike P.U.vm := hZ.alike.trans X.warmed.alike
  obtain ⟨D, cfV, kV, iV, fV, hD, gV, stV, knV, obV, asV, slV⟩ := id V
  obtain ⟨D', cfC, kC, iC, fC, hD', gC, stC, -, -, asC, slC⟩ := id C
  cases hD.symm.trans hD'
  obtain ⟨D2, kD, e1, e2, e3, e4, e5⟩ := id E
  cases hD.symm.trans e1
  obtain ⟨c2, k2, i1, i2, i3, -⟩ := Cond.instantiable_spec wi
  cases e2.symm.trans i1
  cases e3.symm.trans i2
  obtain ⟨kU, u1, u2⟩ := al.2.2 _ _ e3
  have hB : Blank ST x D P.U := ⟨hD, ⟨knV, fun q hq => by rw [hq] at obV; cases obV⟩, by rw [al.findClass]; exact e2, kU, u1, by rw [u2]; exact i3, by rw [u2]; exact e5 i3⟩
  have F1 : Found ST "value" "[B" fV P.U := ⟨SBG.found_only al ⟨cfV, kV, iV, gV⟩, stV⟩
  have F2 : Found ST "coder" "B" fC P.U := ⟨SBG.found_only al ⟨cfC, kC, iC, gC⟩, stC⟩
  have hA : Ch b A P.U := ⟨⟨K.1, State.isArrayOf_alike al K.2.1, K.2.2, by omega⟩, hty⟩
  have hS : StaticIs P.U ST "COMPACT_STRINGS" "Z" (.int z) := by
    obtain ⟨cfS, iS, kS, fS, st, cS, t1, t2, t3, t4, t5, t6, t7⟩ := S
    exact StaticIs.there (s := { Z with heap := P.U.heap }) ⟨cfS, iS, kS, fS, st, cS, t1, t2, t3, t4, t5, (fun q => by rw [q] at t6; cases t6), t7⟩ al rfl
  obtain ⟨v, B, X', ⟨⟨hv, E', V', q1, q2, q3, q4, q5, q6, q7, q8, q9, q10, q11⟩, hl, hc, hs⟩, st⟩ := New1.pays x D fV fC b A z (tab_of (moved hZ hw)) hfr hlo m meth c P g ig mk _ X hg hsize hdg hW hn ⟨r1, r2, rfl, hB, F1, F2, hA, hS, hz, l0, l2, hp⟩
  have al' : Z.vm.Alike B.U.vm := hZ.alike.trans X'.warmed.alike
  have hsz : E'.slots.size = D.slots.size := by
    obtain ⟨-, -, -, kB, w1, w2, w3⟩ := q1
    obtain ⟨kB', y1, y2⟩ := al'.2.2 _ _ e3
    rw [q2.2.1] at w1
    cases w1.symm.trans y1
    rw [w3, e5 i3, y2]
  refine ⟨v, B, X', ⟨_, ⟨hv, ?_, ⟨by omega, fun y cy hy hn' => q10 y cy (by simpa using hn') hy, fun y cy hy => ?_⟩, q11, ⟨E', _, q1.1, by rw [q2.2.1]; exact e2, by rw [q2.2.1]; exact e3, by rw [q2.1]; exact obV, fun _ => by rw [hsz]; exact e5 i3⟩,
    ⟨E', cfV, kV, iV, fV, q1.1, gV, stV, by rw [q2.1]; exact knV, by rw [q2.1]; exact obV, by rw [q2.2.1]; exact asV, q3⟩, ⟨E', cfC, kC, iC, fC, q1.1, gC, stC, by rw [q2.1]; exact knV, by rw [q2.1]; exact obV, by rw [q2.2.1]; exact asC, q4⟩,
    ⟨V', ⟨q5.1, State.isArrayOf_alike al'.symm q5.2.1, q5.2.2.1⟩, q6, by rw [← al'.findClass]; exact q7, q8, fun j hj => by have := q9 j hj; rwa [Nat.zero_add] at this⟩, fun O n d w F n1 n2 => ?_⟩, hl, hc, hs⟩, st⟩
  · intro y hy
    simp only [List.mem_cons, List.not_mem_nil, or_false] at hy
    rcases hy with rfl | rfl <;> rfl
  · by_cases q : y = x
    · subst q
      cases hD.symm.trans hy
      exact ⟨E', q1.1, q2.2.1, q2.1, hsz⟩
    · exact ⟨cy, q10 y cy q hy, rfl, rfl, rfl⟩
  · obtain ⟨D3, cf, k, i, f, g1, g2, g3, g4, g5, g6, g7⟩ := F
    cases hD.symm.trans g1
    simp only [RoadKit.slotOf, g2, gV, gC, Option.map_some, Option.getD_some] at n1 n2
    exact ⟨E', cf, k, i, f, q1.1, g2, g3, by rw [q2.1]; exact g4, by rw [q2.1]; exact g5, by rw [q2.2.1]; exact g6, by rw [q2.2.2 f.slot (by simp [n1, n2])]; exact g7⟩
end StrChars.Road
namespace StrChars.Road
open Jvm Sem ClassFile Op Lib Jvm.Stand Jvm.Free Jvm.Free.XT
/-- WHAT COMES BACK, the byte[] as a list of values -/
def QA (Z : State) (x : Addr) (zn : Int32) (cs : List Int32) (h : Heap) (v : Option Value) (h' : Heap) (L : List Loc) : Prop := v = none ∧ (∀ y ∈ L, y.base = x) ∧ RoadKit.Keep h h' [x] ∧ h'.size = h.size + 1 ∧ RoadKit.Exa Z h' x ST ∧ RoadKit.Fld Z h' x ST "value" "[B" (.ref h.size) ∧ RoadKit.Fld Z h' x ST "coder" "B" (.int 0) ∧
  (∃ kb, Z.vm.findClass "[B" = some kb ∧ RoadKit.Arv Z h' h.size kb .byte zn (cs.map fun c => .int (lo8 c)) (.int 0)) ∧
  ∀ (O n d : String) (w : Value), RoadKit.Fld Z h x O n d w → RoadKit.slotOf Z O n d ≠ RoadKit.slotOf Z ST "value" "[B" → RoadKit.slotOf Z O n d ≠ RoadKit.slotOf Z ST "coder" "B" → RoadKit.Fld Z h' x O n d w
/-- **new String(chars) AT A CALL, THE ARRAYS AS LISTS**: the char[] at b holds cs, not empty, no char above 255 -/
theorem backArv {p : Program} {l : Launch} {e : Env} {R : Room} {s : State} {args : Array Value} {below : List Frame} {len W : Nat} {Z : State} {a0 : Array Value} {h : Heap} (hZ : Z.Warmed39 s.vm) (hw : ∀ d ∈ words, d.before a0 Z = true) {kI : Nat} (wi : (Jvm.Cond.instantiable ST kI).before a0 Z = true)
    {x b : Addr} {k : ClassId} {zn z : Int32} {cs : List Int32} {dv v0 c0 : Value} (E : RoadKit.Exa Z h x ST) (V : RoadKit.Fld Z h x ST "value" "[B" v0) (C : RoadKit.Fld Z h x ST "coder" "B" c0) (K : RoadKit.Arv Z h b k .char zn (cs.map Value.int) dv) (S : RoadKit.Sta Z h ST "COMPACT_STRINGS" "Z" (.int z)) (hz : ¬ z = 0)
    (hlen : zn.toNatClampNeg = cs.length) (h0 : 0 < cs.length) (hbig : cs.length ≤ 536870912) (hall : ∀ c ∈ cs, ¬ 255 < c) (hfr : 4 ≤ R.frames) (hlo : W + 65 ≤ R.locals) :
    Back l R p e below s args New1.yN len W (fun P a => a = #[.ref x, .ref b] ∧ P.U.heap = h ∧ P.cells + 1 ≤ R.cells ∧ P.slots + cs.length ≤ R.slots)
      (fun P _ v B => ∃ L, QA Z x zn cs h v B.U.heap L ∧ B.locs = P.locs ++ L ∧ B.cells = P.cells + 1 ∧ B.slots = P.slots + cs.length) := by
  obtain ⟨A, K1, K2, K3, K4, K5, K6⟩ := K
  have e : A.slots.size = cs.length := K3.trans hlen
  have hat : ∀ (i : Nat) (hi : i < cs.length), A.slots[i]? = some (.int cs[i]) := fun i hi => by rw [K5 i (by omega)]; simp [List.getD_eq_getElem?_getD, hi]
  have hcv : ∀ (i : Nat) (hi : i < cs.length), cv A i = cs[i] := fun i hi => by unfold cv; rw [hat i hi]
  have hty : Typed .char A := fun i v hv => by
    have hi : i < A.slots.size := (Array.getElem?_eq_some_iff.mp hv).1
    have q := K5 i hi
    rw [hv] at q
    rw [Option.some.inj q]
    exact K6 i hi
  refine Back.mono (back hZ hw wi E V C K1 hty S hz (by omega) (by omega) (fun i hi => by rw [hcv i (by omega)]; exact hall _ (List.getElem_mem _)) hfr hlo) (fun P a hp => ⟨hp.1, hp.2.1, hp.2.2.1, by rw [e]; exact hp.2.2.2⟩) (fun P a v B hp hq => ?_)
  obtain ⟨L, ⟨q1, q2, q3, q4, q5, q6, q7, ⟨V', v1, v2, v3, v4, v5⟩, q9⟩, hl, hc, hs⟩ := hq
  refine ⟨L, ⟨q1, q2, q3, q4, q5, q6, q7, ⟨V'.cls, v3, V', v1, rfl, by rw [v4, e, hlen], K4, fun i hi => ?_, fun i hi => ?_⟩, q9⟩, hl, hc, by rw [hs, e]⟩
  · have hi' : i < cs.length := by omega
    rw [v5 i (by omega), hcv i hi']; simp [List.getD_eq_getElem?_getD, hi']
  · have hi' : i < cs.length := by omega
    simp only [List.getD_eq_getElem?_getD, List.getElem?_map, List.getElem?_eq_getElem hi', Option.map_some, Option.getD_some]
    exact fits_lo8 _
end StrChars.Road
namespace StrChars.Road
open Jvm Sem ClassFile Op Lib Jvm.Stand Jvm.Free Jvm.Free.XT
/-- WHAT COMES BACK, in the writer's own shape -/
def QV (Z : State) (x : Addr) (N : Int32) (bs : List Int32) (h : Heap) (n0 : Nat) (v : Option Value) (h' : Heap) (L : List Loc) : Prop := v = none ∧ RoadKit.Fr n0 L ∧ RoadKit.Keep h h' [x] ∧ RoadKit.Exa Z h' x ST ∧ RoadKit.Fld Z h' x ST "coder" "B" (.int 0) ∧
  ∃ (t : Addr) (kb : ClassId), n0 ≤ t ∧ h.size ≤ t ∧ ¬ t = x ∧ RoadKit.Fld Z h' x ST "value" "[B" (.ref t) ∧ RoadKit.Arv Z h' t kb .byte N (bs.map Value.int) (.int 0)
/-- **new String(chars) AT A CALL, FOR THE WRITER**: a char[] of n known ints, each 0 to 255 -/
theorem backV {p : Program} {l : Launch} {e : Env} {R : Room} {s : State} {args : Array Value} {below : List Frame} {len W : Nat} {Z : State} {a0 : Array Value} {h : Heap} (hZ : Z.Warmed39 s.vm) (hw : ∀ d ∈ words, d.before a0 Z = true) {kI : Nat} (wi : (Jvm.Cond.instantiable ST kI).before a0 Z = true)
    {x b : Addr} {kC : ClassId} {cs bs : List Int32} {d v0 c0 : Value} {z N : Int32} {n n0 : Nat} (hx0 : n0 ≤ x) (hh0 : n0 ≤ h.size) (E : RoadKit.Exa Z h x ST) (V : RoadKit.Fld Z h x ST "value" "[B" v0) (C : RoadKit.Fld Z h x ST "coder" "B" c0) (K : RoadKit.Arv Z h b kC .char N (cs.map Value.int) d) (S : RoadKit.Sta Z h ST "COMPACT_STRINGS" "Z" (.int z)) (hz : ¬ z = 0)
    (hn : cs.length = n) (hN : N = Int32.ofNat n) (l0 : 0 < n) (l2 : n ≤ 4000) (hp : ∀ c ∈ cs, ¬ c < 0 ∧ ¬ (255 : Int32) < c) (hb : bs = cs.map (fun c => c.toInt8.toInt32)) (hfr : 4 ≤ R.frames) (hlo : W + 65 ≤ R.locals) :
    Back l R p e below s args (⟨"java/lang/String", "<init>", "([C)V"⟩ : MethodName) len W (fun P a => a = #[.ref x, .ref b] ∧ P.U.heap = h ∧ P.cells + 1 ≤ R.cells ∧ P.slots + n ≤ R.slots)
      (fun P _ v B => ∃ L, QV Z x N bs h n0 v B.U.heap L ∧ B.locs = P.locs ++ L ∧ B.cells = P.cells + 1 ∧ B.slots = P.slots + n) := by
  subst hn hN hb
  refine Back.mono (backArv hZ hw wi E V C K S hz (n32 (by omega)) l0 (by omega) (fun c hc => (hp c hc).2) hfr hlo) (fun P a hp => hp) (fun P a v B hp hq => ?_)
  obtain ⟨L, ⟨q1, q2, q3, q4, q5, q6, q7, ⟨kb, v1, v2⟩, q9⟩, hl, hc, hs⟩ := hq
  exact ⟨L, ⟨q1, fun y hy => by rw [q2 y hy]; exact hx0, q3, q5, q7, h.size, kb, hh0, Nat.le_refl _, Nat.ne_of_gt E.lt, q6, by rw [List.map_map]; exact v2⟩, hl, hc, hs⟩
end StrChars.Road
end Jvm.Pilot.@@N@@

namespace Jvm.Pilot.@@N@@
open Jvm Jvm.ClassFile Sem Op Lib Jvm.Free Jvm.Stand Jvm.LawKit Jvm.RoadKit Bundle Jvm.Pilot.@@N@@.Jvm.D
section OwnSteps
variable {p : Program} {l : Launch} {e : Env} {R : Room} {s : State} {m : MethodId} {args : Array Value} {below : List Frame} {meth : Method} {c : Code} {T : State} {locs : List Loc} {cells slots : Nat} {G : State → Outcome → Prop} {B : ByteArray} {pc pc' : Nat} {Ls Ls' : Array Slot} {st : List Value}
/-- from here the run ends as G says -/
def own_E (tb : Tables) (e : Env) (below : List Frame) (G : State → Outcome → Prop) (A : State) : Prop := ∃ s₂ o, Steps tb e below A s₂ ∧ G s₂ o
theorem own_go {tb : Tables} {A A' : State} (h : ∀ t, Steps tb e below A' t → Steps tb e below A t) (k : own_E tb e below G A') : own_E tb e below G A := by
  obtain ⟨s₂, o, h1, h2⟩ := k; exact ⟨s₂, o, h _ h1, h2⟩
theorem own_tr {tb : Tables} {A A' : State} (h : Steps tb e below A A') (k : own_E tb e below G A') : own_E tb e below G A := own_go (fun _ q => h.trans q) k
theorem own_iloadN (X : Stand p l e R s m args below meth c T locs cells slots) (hx : p.tables.exec = Jvm.exec) (hby : c.code = B) {k : Fin 4} {v : Int32} (hd : decode B pc = .ok (.iload_n k, 1)) (hp : pc + 1 = pc') (hl : Ls[k.val]? = some (.val (.int v)))
    (k : own_E p.tables e below G (T.setTop (mkF m pc' Ls (.int v :: st)))) : own_E p.tables e below G (T.setTop (mkF m pc Ls (st))) := by
  subst hp; exact own_go (fun t q => XS.iloadN X.here hx rfl (hb hby hd) hl q) k
theorem own_iload (X : Stand p l e R s m args below meth c T locs cells slots) (hx : p.tables.exec = Jvm.exec) (hby : c.code = B) {k : Nat} {v : Int32} (hd : decode B pc = .ok (.iload k, 2)) (hp : pc + 2 = pc') (hl : Ls[k]? = some (.val (.int v)))
    (k : own_E p.tables e below G (T.setTop (mkF m pc' Ls (.int v :: st)))) : own_E p.tables e below G (T.setTop (mkF m pc Ls (st))) := by
  subst hp; exact own_go (fun t q => XS.iload X.here hx rfl (hb hby hd) hl q) k
theorem own_lloadN (X : Stand p l e R s m args below meth c T locs cells slots) (hx : p.tables.exec = Jvm.exec) (hby : c.code = B) {k : Fin 4} {v : Int64} (hd : decode B pc = .ok (.lload_n k, 1)) (hp : pc + 1 = pc') (hl : Ls[k.val]? = some (.val (.long v)))
    (k : own_E p.tables e below G (T.setTop (mkF m pc' Ls (.long v :: st)))) : own_E p.tables e below G (T.setTop (mkF m pc Ls (st))) := by
  subst hp; exact own_go (fun t q => XS.lloadN X.here hx rfl (hb hby hd) hl q) k
theorem own_lload (X : Stand p l e R s m args below meth c T locs cells slots) (hx : p.tables.exec = Jvm.exec) (hby : c.code = B) {k : Nat} {v : Int64} (hd : decode B pc = .ok (.lload k, 2)) (hp : pc + 2 = pc') (hl : Ls[k]? = some (.val (.long v)))
    (k : own_E p.tables e below G (T.setTop (mkF m pc' Ls (.long v :: st)))) : own_E p.tables e below G (T.setTop (mkF m pc Ls (st))) := by
  subst hp; exact own_go (fun t q => XS.lload X.here hx rfl (hb hby hd) hl q) k
theorem own_aloadN (X : Stand p l e R s m args below meth c T locs cells slots) (hx : p.tables.exec = Jvm.exec) (hby : c.code = B) {k : Fin 4} {v : Value} (hd : decode B pc = .ok (.aload_n k, 1)) (hp : pc + 1 = pc') (hl : Ls[k.val]? = some (.val v)) (hv : v.isRef = true)
    (k : own_E p.tables e below G (T.setTop (mkF m pc' Ls (v :: st)))) : own_E p.tables e below G (T.setTop (mkF m pc Ls (st))) := by
  subst hp; exact own_go (fun t q => XS.aloadN X.here hx rfl (hb hby hd) hl hv q) k
theorem own_aload (X : Stand p l e R s m args below meth c T locs cells slots) (hx : p.tables.exec = Jvm.exec) (hby : c.code = B) {k : Nat} {v : Value} (hd : decode B pc = .ok (.aload k, 2)) (hp : pc + 2 = pc') (hl : Ls[k]? = some (.val v)) (hv : v.isRef = true)
    (k : own_E p.tables e below G (T.setTop (mkF m pc' Ls (v :: st)))) : own_E p.tables e below G (T.setTop (mkF m pc Ls (st))) := by
  subst hp; exact own_go (fun t q => XS.aload X.here hx rfl (hb hby hd) hl hv q) k
theorem own_istoreN (X : Stand p l e R s m args below meth c T locs cells slots) (hx : p.tables.exec = Jvm.exec) (hby : c.code = B) {k : Fin 4} {v : Int32} (hd : decode B pc = .ok (.istore_n k, 1)) (hp : pc + 1 = pc') (hl : storeLocals Ls k.val (.int v) = some Ls')
    (k : own_E p.tables e below G (T.setTop (mkF m pc' Ls' (st)))) : own_E p.tables e below G (T.setTop (mkF m pc Ls (.int v :: st))) := by
  subst hp; exact own_go (fun t q => XS.istoreN X.here hx rfl (hb hby hd) rfl hl q) k
theorem own_istore (X : Stand p l e R s m args below meth c T locs cells slots) (hx : p.tables.exec = Jvm.exec) (hby : c.code = B) {k : Nat} {v : Int32} (hd : decode B pc = .ok (.istore k, 2)) (hp : pc + 2 = pc') (hl : storeLocals Ls k (.int v) = some Ls')
    (k : own_E p.tables e below G (T.setTop (mkF m pc' Ls' (st)))) : own_E p.tables e below G (T.setTop (mkF m pc Ls (.int v :: st))) := by
  subst hp; exact own_go (fun t q => XS.istore X.here hx rfl (hb hby hd) rfl hl q) k
theorem own_lstoreN (X : Stand p l e R s m args below meth c T locs cells slots) (hx : p.tables.exec = Jvm.exec) (hby : c.code = B) {k : Fin 4} {v : Int64} (hd : decode B pc = .ok (.lstore_n k, 1)) (hp : pc + 1 = pc') (hl : storeLocals Ls k.val (.long v) = some Ls')
    (k : own_E p.tables e below G (T.setTop (mkF m pc' Ls' (st)))) : own_E p.tables e below G (T.setTop (mkF m pc Ls (.long v :: st))) := by
  subst hp; exact own_go (fun t q => XS.lstoreN X.here hx rfl (hb hby hd) rfl hl q) k
theorem own_lstore (X : Stand p l e R s m args below meth c T locs cells slots) (hx : p.tables.exec = Jvm.exec) (hby : c.code = B) {k : Nat} {v : Int64} (hd : decode B pc = .ok (.lstore k, 2)) (hp : pc + 2 = pc') (hl : storeLocals Ls k (.long v) = some Ls')
    (k : own_E p.tables e below G (T.setTop (mkF m pc' Ls' (st)))) : own_E p.tables e below G (T.setTop (mkF m pc Ls (.long v :: st))) := by
  subst hp; exact own_go (fun t q => XS.lstore X.here hx rfl (hb hby hd) rfl hl q) k
theorem own_astoreN (X : Stand p l e R s m args below meth c T locs cells slots) (hx : p.tables.exec = Jvm.exec) (hby : c.code = B) {k : Fin 4} {v : Value} (hd : decode B pc = .ok (.astore_n k, 1)) (hp : pc + 1 = pc') (hv : v.isRef = true) (hl : storeLocals Ls k.val v = some Ls')
    (k : own_E p.tables e below G (T.setTop (mkF m pc' Ls' (st)))) : own_E p.tables e below G (T.setTop (mkF m pc Ls (v :: st))) := by
  subst hp; exact own_go (fun t q => XS.astoreN X.here hx rfl (hb hby hd) rfl hv hl q) k
theorem own_astore (X : Stand p l e R s m args below meth c T locs cells slots) (hx : p.tables.exec = Jvm.exec) (hby : c.code = B) {k : Nat} {v : Value} (hd : decode B pc = .ok (.astore k, 2)) (hp : pc + 2 = pc') (hv : v.isRef = true) (hl : storeLocals Ls k v = some Ls')
    (k : own_E p.tables e below G (T.setTop (mkF m pc' Ls' (st)))) : own_E p.tables e below G (T.setTop (mkF m pc Ls (v :: st))) := by
  subst hp; exact own_go (fun t q => XS.astore X.here hx rfl (hb hby hd) rfl hv hl q) k
theorem own_iinc (X : Stand p l e R s m args below meth c T locs cells slots) (hx : p.tables.exec = Jvm.exec) (hby : c.code = B) {k : Nat} {cst : Int} {v z : Int32} (hd : decode B pc = .ok (.iinc k cst, 3)) (hp : pc + 3 = pc') (hl : Ls[k]? = some (.val (.int v))) (hz : Int32.ofInt cst = z) (hl' : storeLocals Ls k (.int (v + z)) = some Ls')
    (k : own_E p.tables e below G (T.setTop (mkF m pc' Ls' (st)))) : own_E p.tables e below G (T.setTop (mkF m pc Ls (st))) := by
  subst hp; exact own_go (fun t q => XS.iinc X.here hx rfl (hb hby hd) hl (hz ▸ hl') q) k
theorem own_iconst (X : Stand p l e R s m args below meth c T locs cells slots) (hx : p.tables.exec = Jvm.exec) (hby : c.code = B) {i : Int} {z : Int32} (hd : decode B pc = .ok (.iconst i, 1)) (hp : pc + 1 = pc') (hz : Int32.ofInt i = z)
    (k : own_E p.tables e below G (T.setTop (mkF m pc' Ls (.int z :: st)))) : own_E p.tables e below G (T.setTop (mkF m pc Ls (st))) := by
  subst hp hz; exact own_go (fun t q => XS.iconst X.here hx rfl (hb hby hd) q) k
theorem own_bipush (X : Stand p l e R s m args below meth c T locs cells slots) (hx : p.tables.exec = Jvm.exec) (hby : c.code = B) {i : Int} {z : Int32} (hd : decode B pc = .ok (.bipush i, 2)) (hp : pc + 2 = pc') (hz : (Int8.ofInt i).toInt32 = z)
    (k : own_E p.tables e below G (T.setTop (mkF m pc' Ls (.int z :: st)))) : own_E p.tables e below G (T.setTop (mkF m pc Ls (st))) := by
  subst hp hz; exact own_go (fun t q => XS.bipush X.here hx rfl (hb hby hd) q) k
theorem own_sipush (X : Stand p l e R s m args below meth c T locs cells slots) (hx : p.tables.exec = Jvm.exec) (hby : c.code = B) {i : Int} {z : Int32} (hd : decode B pc = .ok (.sipush i, 3)) (hp : pc + 3 = pc') (hz : (Int16.ofInt i).toInt32 = z)
    (k : own_E p.tables e below G (T.setTop (mkF m pc' Ls (.int z :: st)))) : own_E p.tables e below G (T.setTop (mkF m pc Ls (st))) := by
  subst hp hz; exact own_go (fun t q => XS.sipush X.here hx rfl (hb hby hd) q) k
theorem own_lconst (X : Stand p l e R s m args below meth c T locs cells slots) (hx : p.tables.exec = Jvm.exec) (hby : c.code = B) {i : Fin 2} {z : Int64} (hd : decode B pc = .ok (.lconst i, 1)) (hp : pc + 1 = pc') (hz : Int64.ofNat i = z)
    (k : own_E p.tables e below G (T.setTop (mkF m pc' Ls (.long z :: st)))) : own_E p.tables e below G (T.setTop (mkF m pc Ls (st))) := by
  subst hp hz; exact own_go (fun t q => XS.lconst X.here hx rfl (hb hby hd) q) k
theorem own_aconst_null (X : Stand p l e R s m args below meth c T locs cells slots) (hx : p.tables.exec = Jvm.exec) (hby : c.code = B)  (hd : decode B pc = .ok (.aconst_null, 1)) (hp : pc + 1 = pc') 
    (k : own_E p.tables e below G (T.setTop (mkF m pc' Ls (.null :: st)))) : own_E p.tables e below G (T.setTop (mkF m pc Ls (st))) := by
  subst hp; exact own_go (fun t q => XS.aconstNull X.here hx rfl (hb hby hd)  q) k
theorem own_iadd (X : Stand p l e R s m args below meth c T locs cells slots) (hx : p.tables.exec = Jvm.exec) (hby : c.code = B) {x y : Int32} (hd : decode B pc = .ok (.iadd, 1)) (hp : pc + 1 = pc') 
    (k : own_E p.tables e below G (T.setTop (mkF m pc' Ls (.int (x + y) :: st)))) : own_E p.tables e below G (T.setTop (mkF m pc Ls (.int y :: .int x :: st))) := by
  subst hp; exact own_go (fun t q => XS.iadd X.here hx rfl (hb hby hd) rfl q) k
theorem own_isub (X : Stand p l e R s m args below meth c T locs cells slots) (hx : p.tables.exec = Jvm.exec) (hby : c.code = B) {x y : Int32} (hd : decode B pc = .ok (.isub, 1)) (hp : pc + 1 = pc') 
    (k : own_E p.tables e below G (T.setTop (mkF m pc' Ls (.int (x - y) :: st)))) : own_E p.tables e below G (T.setTop (mkF m pc Ls (.int y :: .int x :: st))) := by
  subst hp; exact own_go (fun t q => XS.isub X.here hx rfl (hb hby hd) rfl q) k
theorem own_iand (X : Stand p l e R s m args below meth c T locs cells slots) (hx : p.tables.exec = Jvm.exec) (hby : c.code = B) {x y : Int32} (hd : decode B pc = .ok (.iand, 1)) (hp : pc + 1 = pc') 
    (k : own_E p.tables e below G (T.setTop (mkF m pc' Ls (.int (x &&& y) :: st)))) : own_E p.tables e below G (T.setTop (mkF m pc Ls (.int y :: .int x :: st))) := by
  subst hp; exact own_go (fun t q => XS.iand X.here hx rfl (hb hby hd) rfl q) k
theorem own_imul (X : Stand p l e R s m args below meth c T locs cells slots) (hx : p.tables.exec = Jvm.exec) (hby : c.code = B) {x y : Int32} (hd : decode B pc = .ok (.imul, 1)) (hp : pc + 1 = pc') 
    (k : own_E p.tables e below G (T.setTop (mkF m pc' Ls (.int (x * y) :: st)))) : own_E p.tables e below G (T.setTop (mkF m pc Ls (.int y :: .int x :: st))) := by
  subst hp; exact own_go (fun t q => XS.imul X.here hx rfl (hb hby hd) rfl q) k
theorem own_ixor (X : Stand p l e R s m args below meth c T locs cells slots) (hx : p.tables.exec = Jvm.exec) (hby : c.code = B) {x y : Int32} (hd : decode B pc = .ok (.ixor, 1)) (hp : pc + 1 = pc') 
    (k : own_E p.tables e below G (T.setTop (mkF m pc' Ls (.int (x ^^^ y) :: st)))) : own_E p.tables e below G (T.setTop (mkF m pc Ls (.int y :: .int x :: st))) := by
  subst hp; exact own_go (fun t q => XS.ixor X.here hx rfl (hb hby hd) rfl q) k
theorem own_ior (X : Stand p l e R s m args below meth c T locs cells slots) (hx : p.tables.exec = Jvm.exec) (hby : c.code = B) {x y : Int32} (hd : decode B pc = .ok (.ior, 1)) (hp : pc + 1 = pc') 
    (k : own_E p.tables e below G (T.setTop (mkF m pc' Ls (.int (x ||| y) :: st)))) : own_E p.tables e below G (T.setTop (mkF m pc Ls (.int y :: .int x :: st))) := by
  subst hp; exact own_go (fun t q => XS.ior X.here hx rfl (hb hby hd) rfl q) k
theorem own_ishl (X : Stand p l e R s m args below meth c T locs cells slots) (hx : p.tables.exec = Jvm.exec) (hby : c.code = B) {x y : Int32} (hd : decode B pc = .ok (.ishl, 1)) (hp : pc + 1 = pc') 
    (k : own_E p.tables e below G (T.setTop (mkF m pc' Ls (.int (x <<< (y &&& 31)) :: st)))) : own_E p.tables e below G (T.setTop (mkF m pc Ls (.int y :: .int x :: st))) := by
  subst hp; exact own_go (fun t q => XS.ishl X.here hx rfl (hb hby hd) rfl q) k
theorem own_ishr (X : Stand p l e R s m args below meth c T locs cells slots) (hx : p.tables.exec = Jvm.exec) (hby : c.code = B) {x y : Int32} (hd : decode B pc = .ok (.ishr, 1)) (hp : pc + 1 = pc') 
    (k : own_E p.tables e below G (T.setTop (mkF m pc' Ls (.int (x >>> (y &&& 31)) :: st)))) : own_E p.tables e below G (T.setTop (mkF m pc Ls (.int y :: .int x :: st))) := by
  subst hp; exact own_go (fun t q => XS.ishr X.here hx rfl (hb hby hd) rfl q) k
theorem own_iushr (X : Stand p l e R s m args below meth c T locs cells slots) (hx : p.tables.exec = Jvm.exec) (hby : c.code = B) {x y : Int32} (hd : decode B pc = .ok (.iushr, 1)) (hp : pc + 1 = pc') 
    (k : own_E p.tables e below G (T.setTop (mkF m pc' Ls (.int ((x.toUInt32 >>> (y &&& 31).toUInt32).toInt32) :: st)))) : own_E p.tables e below G (T.setTop (mkF m pc Ls (.int y :: .int x :: st))) := by
  subst hp; exact own_go (fun t q => XS.iushr X.here hx rfl (hb hby hd) rfl q) k
theorem own_ladd (X : Stand p l e R s m args below meth c T locs cells slots) (hx : p.tables.exec = Jvm.exec) (hby : c.code = B) {x y : Int64} (hd : decode B pc = .ok (.ladd, 1)) (hp : pc + 1 = pc') 
    (k : own_E p.tables e below G (T.setTop (mkF m pc' Ls (.long (x + y) :: st)))) : own_E p.tables e below G (T.setTop (mkF m pc Ls (.long y :: .long x :: st))) := by
  subst hp; exact own_go (fun t q => XS.ladd X.here hx rfl (hb hby hd) rfl q) k
theorem own_lsub (X : Stand p l e R s m args below meth c T locs cells slots) (hx : p.tables.exec = Jvm.exec) (hby : c.code = B) {x y : Int64} (hd : decode B pc = .ok (.lsub, 1)) (hp : pc + 1 = pc') 
    (k : own_E p.tables e below G (T.setTop (mkF m pc' Ls (.long (x - y) :: st)))) : own_E p.tables e below G (T.setTop (mkF m pc Ls (.long y :: .long x :: st))) := by
  subst hp; exact own_go (fun t q => XS.lsub X.here hx rfl (hb hby hd) rfl q) k
theorem own_lmul (X : Stand p l e R s m args below meth c T locs cells slots) (hx : p.tables.exec = Jvm.exec) (hby : c.code = B) {x y : Int64} (hd : decode B pc = .ok (.lmul, 1)) (hp : pc + 1 = pc') 
    (k : own_E p.tables e below G (T.setTop (mkF m pc' Ls (.long (x * y) :: st)))) : own_E p.tables e below G (T.setTop (mkF m pc Ls (.long y :: .long x :: st))) := by
  subst hp; exact own_go (fun t q => XS.lmul X.here hx rfl (hb hby hd) rfl q) k
theorem own_land (X : Stand p l e R s m args below meth c T locs cells slots) (hx : p.tables.exec = Jvm.exec) (hby : c.code = B) {x y : Int64} (hd : decode B pc = .ok (.land, 1)) (hp : pc + 1 = pc') 
    (k : own_E p.tables e below G (T.setTop (mkF m pc' Ls (.long (x &&& y) :: st)))) : own_E p.tables e below G (T.setTop (mkF m pc Ls (.long y :: .long x :: st))) := by
  subst hp; exact own_go (fun t q => XS.land X.here hx rfl (hb hby hd) rfl q) k
theorem own_lor (X : Stand p l e R s m args below meth c T locs cells slots) (hx : p.tables.exec = Jvm.exec) (hby : c.code = B) {x y : Int64} (hd : decode B pc = .ok (.lor, 1)) (hp : pc + 1 = pc') 
    (k : own_E p.tables e below G (T.setTop (mkF m pc' Ls (.long (x ||| y) :: st)))) : own_E p.tables e below G (T.setTop (mkF m pc Ls (.long y :: .long x :: st))) := by
  subst hp; exact own_go (fun t q => XS.lor X.here hx rfl (hb hby hd) rfl q) k
theorem own_lxor (X : Stand p l e R s m args below meth c T locs cells slots) (hx : p.tables.exec = Jvm.exec) (hby : c.code = B) {x y : Int64} (hd : decode B pc = .ok (.lxor, 1)) (hp : pc + 1 = pc') 
    (k : own_E p.tables e below G (T.setTop (mkF m pc' Ls (.long (x ^^^ y) :: st)))) : own_E p.tables e below G (T.setTop (mkF m pc Ls (.long y :: .long x :: st))) := by
  subst hp; exact own_go (fun t q => XS.lxor X.here hx rfl (hb hby hd) rfl q) k
theorem own_lshl (X : Stand p l e R s m args below meth c T locs cells slots) (hx : p.tables.exec = Jvm.exec) (hby : c.code = B) {x : Int64} {y : Int32} (hd : decode B pc = .ok (.lshl, 1)) (hp : pc + 1 = pc')
    (k : own_E p.tables e below G (T.setTop (mkF m pc' Ls (.long (x <<< (y &&& 0x3f).toInt64) :: st)))) : own_E p.tables e below G (T.setTop (mkF m pc Ls (.int y :: .long x :: st))) := by
  subst hp; exact own_go (fun t q => by
    jvm_step X.here [X.here.top, hx, hb hby hd]
    first | exact q | simpa [Int32.toInt64_and] using q) k
theorem own_lshr (X : Stand p l e R s m args below meth c T locs cells slots) (hx : p.tables.exec = Jvm.exec) (hby : c.code = B) {x : Int64} {y : Int32} (hd : decode B pc = .ok (.lshr, 1)) (hp : pc + 1 = pc')
    (k : own_E p.tables e below G (T.setTop (mkF m pc' Ls (.long (x >>> (y &&& 0x3f).toInt64) :: st)))) : own_E p.tables e below G (T.setTop (mkF m pc Ls (.int y :: .long x :: st))) := by
  subst hp; exact own_go (fun t q => by
    jvm_step X.here [X.here.top, hx, hb hby hd]
    first | exact q | simpa [Int32.toInt64_and] using q) k
theorem own_lushr (X : Stand p l e R s m args below meth c T locs cells slots) (hx : p.tables.exec = Jvm.exec) (hby : c.code = B) {x : Int64} {y : Int32} (hd : decode B pc = .ok (.lushr, 1)) (hp : pc + 1 = pc')
    (k : own_E p.tables e below G (T.setTop (mkF m pc' Ls (.long ((x.toUInt64 >>> (y &&& 0x3f).toInt64.toUInt64).toInt64) :: st)))) : own_E p.tables e below G (T.setTop (mkF m pc Ls (.int y :: .long x :: st))) := by
  subst hp; exact own_go (fun t q => by
    jvm_step X.here [X.here.top, hx, hb hby hd]
    first | exact q | simpa [Int32.toInt64_and] using q) k
theorem own_idiv (X : Stand p l e R s m args below meth c T locs cells slots) (hx : p.tables.exec = Jvm.exec) (hby : c.code = B) {x y : Int32} (hd : decode B pc = .ok (.idiv, 1)) (hp : pc + 1 = pc') (hy : y ≠ 0)
    (k : own_E p.tables e below G (T.setTop (mkF m pc' Ls (.int (x / y) :: st)))) : own_E p.tables e below G (T.setTop (mkF m pc Ls (.int y :: .int x :: st))) := by
  subst hp; exact own_go (fun t q => XS.idiv X.here hx rfl (hb hby hd) rfl hy q) k
theorem own_irem (X : Stand p l e R s m args below meth c T locs cells slots) (hx : p.tables.exec = Jvm.exec) (hby : c.code = B) {x y : Int32} (hd : decode B pc = .ok (.irem, 1)) (hp : pc + 1 = pc') (hy : y ≠ 0)
    (k : own_E p.tables e below G (T.setTop (mkF m pc' Ls (.int (x % y) :: st)))) : own_E p.tables e below G (T.setTop (mkF m pc Ls (.int y :: .int x :: st))) := by
  subst hp; exact own_go (fun t q => iremM X hx rfl (hb hby hd) rfl hy q) k
theorem own_lrem (X : Stand p l e R s m args below meth c T locs cells slots) (hx : p.tables.exec = Jvm.exec) (hby : c.code = B) {x y : Int64} (hd : decode B pc = .ok (.lrem, 1)) (hp : pc + 1 = pc') (hy : y ≠ 0)
    (k : own_E p.tables e below G (T.setTop (mkF m pc' Ls (.long (x % y) :: st)))) : own_E p.tables e below G (T.setTop (mkF m pc Ls (.long y :: .long x :: st))) := by
  subst hp; exact own_go (fun t q => XS.lrem X.here hx rfl (hb hby hd) rfl hy (by rw [lrem_mod]; exact q)) k
theorem own_ineg (X : Stand p l e R s m args below meth c T locs cells slots) (hx : p.tables.exec = Jvm.exec) (hby : c.code = B) {x : Int32} (hd : decode B pc = .ok (.ineg, 1)) (hp : pc + 1 = pc') 
    (k : own_E p.tables e below G (T.setTop (mkF m pc' Ls (.int (-x) :: st)))) : own_E p.tables e below G (T.setTop (mkF m pc Ls (.int x :: st))) := by
  subst hp; exact own_go (fun t q => XS.ineg X.here hx rfl (hb hby hd) rfl q) k
theorem own_lneg (X : Stand p l e R s m args below meth c T locs cells slots) (hx : p.tables.exec = Jvm.exec) (hby : c.code = B) {x : Int64} (hd : decode B pc = .ok (.lneg, 1)) (hp : pc + 1 = pc') 
    (k : own_E p.tables e below G (T.setTop (mkF m pc' Ls (.long (-x) :: st)))) : own_E p.tables e below G (T.setTop (mkF m pc Ls (.long x :: st))) := by
  subst hp; exact own_go (fun t q => XS.lneg X.here hx rfl (hb hby hd) rfl q) k
theorem own_i2l (X : Stand p l e R s m args below meth c T locs cells slots) (hx : p.tables.exec = Jvm.exec) (hby : c.code = B) {x : Int32} (hd : decode B pc = .ok (.i2l, 1)) (hp : pc + 1 = pc') 
    (k : own_E p.tables e below G (T.setTop (mkF m pc' Ls (.long (x.toInt64) :: st)))) : own_E p.tables e below G (T.setTop (mkF m pc Ls (.int x :: st))) := by
  subst hp; exact own_go (fun t q => XS.i2l X.here hx rfl (hb hby hd) rfl q) k
theorem own_l2i (X : Stand p l e R s m args below meth c T locs cells slots) (hx : p.tables.exec = Jvm.exec) (hby : c.code = B) {x : Int64} (hd : decode B pc = .ok (.l2i, 1)) (hp : pc + 1 = pc') 
    (k : own_E p.tables e below G (T.setTop (mkF m pc' Ls (.int (x.toInt32) :: st)))) : own_E p.tables e below G (T.setTop (mkF m pc Ls (.long x :: st))) := by
  subst hp; exact own_go (fun t q => XS.l2i X.here hx rfl (hb hby hd) rfl q) k
theorem own_i2b (X : Stand p l e R s m args below meth c T locs cells slots) (hx : p.tables.exec = Jvm.exec) (hby : c.code = B) {x : Int32} (hd : decode B pc = .ok (.i2b, 1)) (hp : pc + 1 = pc') 
    (k : own_E p.tables e below G (T.setTop (mkF m pc' Ls (.int (x.toInt8.toInt32) :: st)))) : own_E p.tables e below G (T.setTop (mkF m pc Ls (.int x :: st))) := by
  subst hp; exact own_go (fun t q => XS.i2b X.here hx rfl (hb hby hd) rfl q) k
theorem own_i2c (X : Stand p l e R s m args below meth c T locs cells slots) (hx : p.tables.exec = Jvm.exec) (hby : c.code = B) {x : Int32} (hd : decode B pc = .ok (.i2c, 1)) (hp : pc + 1 = pc') 
    (k : own_E p.tables e below G (T.setTop (mkF m pc' Ls (.int (x.toUInt32.toUInt16.toUInt32.toInt32) :: st)))) : own_E p.tables e below G (T.setTop (mkF m pc Ls (.int x :: st))) := by
  subst hp; exact own_go (fun t q => XS.i2c X.here hx rfl (hb hby hd) rfl q) k
theorem own_i2s (X : Stand p l e R s m args below meth c T locs cells slots) (hx : p.tables.exec = Jvm.exec) (hby : c.code = B) {x : Int32} (hd : decode B pc = .ok (.i2s, 1)) (hp : pc + 1 = pc') 
    (k : own_E p.tables e below G (T.setTop (mkF m pc' Ls (.int (x.toInt16.toInt32) :: st)))) : own_E p.tables e below G (T.setTop (mkF m pc Ls (.int x :: st))) := by
  subst hp; exact own_go (fun t q => XS.i2s X.here hx rfl (hb hby hd) rfl q) k
theorem own_i2cE (X : Stand p l e R s m args below meth c T locs cells slots) (hx : p.tables.exec = Jvm.exec) (hby : c.code = B) {x v : Int32} (hd : decode B pc = .ok (.i2c, 1)) (hp : pc + 1 = pc') (hv : x.toUInt32.toUInt16.toUInt32.toInt32 = v)
    (k : own_E p.tables e below G (T.setTop (mkF m pc' Ls (.int v :: st)))) : own_E p.tables e below G (T.setTop (mkF m pc Ls (.int x :: st))) := by
  subst hv; exact own_i2c X hx hby hd hp k
theorem own_lcmp (X : Stand p l e R s m args below meth c T locs cells slots) (hx : p.tables.exec = Jvm.exec) (hby : c.code = B) {x y : Int64} (hd : decode B pc = .ok (.lcmp, 1)) (hp : pc + 1 = pc')
    (k : own_E p.tables e below G (T.setTop (mkF m pc' Ls (.int (lcmpW x y) :: st)))) : own_E p.tables e below G (T.setTop (mkF m pc Ls (.long y :: .long x :: st))) := by
  subst hp; exact own_go (fun t q => XS.lcmp X.here hx rfl (hb hby hd) rfl q) k
theorem own_dup (X : Stand p l e R s m args below meth c T locs cells slots) (hx : p.tables.exec = Jvm.exec) (hby : c.code = B) {v : Value} (hd : decode B pc = .ok (.dup, 1)) (hp : pc + 1 = pc') (hc : v.category = 1)
    (k : own_E p.tables e below G (T.setTop (mkF m pc' Ls (v :: v :: st)))) : own_E p.tables e below G (T.setTop (mkF m pc Ls (v :: st))) := by
  subst hp; exact own_go (fun t q => XS.dup X.here hx rfl (hb hby hd) rfl hc q) k
theorem own_pop (X : Stand p l e R s m args below meth c T locs cells slots) (hx : p.tables.exec = Jvm.exec) (hby : c.code = B) {v : Value} (hd : decode B pc = .ok (.pop, 1)) (hp : pc + 1 = pc') (hc : v.category = 1)
    (k : own_E p.tables e below G (T.setTop (mkF m pc' Ls (st)))) : own_E p.tables e below G (T.setTop (mkF m pc Ls (v :: st))) := by
  subst hp; exact own_go (fun t q => XS.pop X.here hx rfl (hb hby hd) rfl hc q) k
theorem own_dup_x1 (X : Stand p l e R s m args below meth c T locs cells slots) (hx : p.tables.exec = Jvm.exec) (hby : c.code = B) {v w : Value} (hd : decode B pc = .ok (.dup_x1, 1)) (hp : pc + 1 = pc') (hc : v.category = 1) (hc' : w.category = 1)
    (k : own_E p.tables e below G (T.setTop (mkF m pc' Ls (v :: w :: v :: st)))) : own_E p.tables e below G (T.setTop (mkF m pc Ls (v :: w :: st))) := by
  subst hp; exact own_go (fun t q => XS.dupX1 X.here hx rfl (hb hby hd) rfl hc hc' q) k
theorem own_dup2 (X : Stand p l e R s m args below meth c T locs cells slots) (hx : p.tables.exec = Jvm.exec) (hby : c.code = B) {v w : Value} (hd : decode B pc = .ok (.dup2, 1)) (hp : pc + 1 = pc') (hc : v.category = 1) (hc' : w.category = 1)
    (k : own_E p.tables e below G (T.setTop (mkF m pc' Ls (v :: w :: v :: w :: st)))) : own_E p.tables e below G (T.setTop (mkF m pc Ls (v :: w :: st))) := by
  subst hp; exact own_go (fun t q => by
    jvm_step X.here [X.here.top, hx, hb hby hd, hc, hc']
    exact q) k
theorem own_goto (X : Stand p l e R s m args below meth c T locs cells slots) (hx : p.tables.exec = Jvm.exec) (hby : c.code = B) {o : Int} (hd : decode B pc = .ok (.goto o, 3)) (ho : 0 ≤ (pc : Int) + o) (hp : ((pc : Int) + o).toNat = pc')
    (k : own_E p.tables e below G (T.setTop (mkF m pc' Ls (st)))) : own_E p.tables e below G (T.setTop (mkF m pc Ls (st))) := own_go (fun t q => XS.goto X.here hx rfl rfl (hb hby hd) ho hp q) k
theorem own_ifY (X : Stand p l e R s m args below meth c T locs cells slots) (hx : p.tables.exec = Jvm.exec) (hby : c.code = B) {cd : ClassFile.Cond} {x : Int32} {o : Int} (hd : decode B pc = .ok (.ifCond cd o, 3)) (ho : 0 ≤ (pc : Int) + o) (hp : ((pc : Int) + o).toNat = pc') (hc : if_icmp.holds cd x 0 = true)
    (k : own_E p.tables e below G (T.setTop (mkF m pc' Ls (st)))) : own_E p.tables e below G (T.setTop (mkF m pc Ls (.int x :: st))) := own_go (fun t q => XS.ifYes X.here hx rfl rfl (hb hby hd) rfl ((if0 _ _).trans hc) ho hp q) k
theorem own_ifN (X : Stand p l e R s m args below meth c T locs cells slots) (hx : p.tables.exec = Jvm.exec) (hby : c.code = B) {cd : ClassFile.Cond} {x : Int32} {o : Int} (hd : decode B pc = .ok (.ifCond cd o, 3)) (hp : pc + 3 = pc') (hc : if_icmp.holds cd x 0 = false)
    (k : own_E p.tables e below G (T.setTop (mkF m pc' Ls (st)))) : own_E p.tables e below G (T.setTop (mkF m pc Ls (.int x :: st))) := by
  subst hp; exact own_go (fun t q => XS.ifNo X.here hx rfl (hb hby hd) rfl ((if0 _ _).trans hc) q) k
theorem own_icmpY (X : Stand p l e R s m args below meth c T locs cells slots) (hx : p.tables.exec = Jvm.exec) (hby : c.code = B) {cd : ClassFile.Cond} {x y : Int32} {o : Int} (hd : decode B pc = .ok (.if_icmp cd o, 3)) (ho : 0 ≤ (pc : Int) + o) (hp : ((pc : Int) + o).toNat = pc') (hc : if_icmp.holds cd x y = true)
    (k : own_E p.tables e below G (T.setTop (mkF m pc' Ls (st)))) : own_E p.tables e below G (T.setTop (mkF m pc Ls (.int y :: .int x :: st))) := own_go (fun t q => XS.icmpYes X.here hx rfl rfl (hb hby hd) rfl hc ho hp q) k
theorem own_icmpN (X : Stand p l e R s m args below meth c T locs cells slots) (hx : p.tables.exec = Jvm.exec) (hby : c.code = B) {cd : ClassFile.Cond} {x y : Int32} {o : Int} (hd : decode B pc = .ok (.if_icmp cd o, 3)) (hp : pc + 3 = pc') (hc : if_icmp.holds cd x y = false)
    (k : own_E p.tables e below G (T.setTop (mkF m pc' Ls (st)))) : own_E p.tables e below G (T.setTop (mkF m pc Ls (.int y :: .int x :: st))) := by
  subst hp; exact own_go (fun t q => XS.icmpNo X.here hx rfl (hb hby hd) rfl hc q) k
theorem own_ifnullY (X : Stand p l e R s m args below meth c T locs cells slots) (hx : p.tables.exec = Jvm.exec) (hby : c.code = B)  {o : Int} (hd : decode B pc = .ok (.ifnull o, 3)) (ho : 0 ≤ (pc : Int) + o) (hp : ((pc : Int) + o).toNat = pc')
    (k : own_E p.tables e below G (T.setTop (mkF m pc' Ls (st)))) : own_E p.tables e below G (T.setTop (mkF m pc Ls (.null :: st))) := own_go (fun t q => XS.ifnullYes X.here hx rfl rfl (hb hby hd) rfl ho hp q) k
theorem own_ifnonnullY (X : Stand p l e R s m args below meth c T locs cells slots) (hx : p.tables.exec = Jvm.exec) (hby : c.code = B) {b : Addr} {o : Int} (hd : decode B pc = .ok (.ifnonnull o, 3)) (ho : 0 ≤ (pc : Int) + o) (hp : ((pc : Int) + o).toNat = pc')
    (k : own_E p.tables e below G (T.setTop (mkF m pc' Ls (st)))) : own_E p.tables e below G (T.setTop (mkF m pc Ls (.ref b :: st))) := own_go (fun t q => XS.ifnonnullYes X.here hx rfl rfl (hb hby hd) rfl ho hp q) k
theorem own_ifnullN (X : Stand p l e R s m args below meth c T locs cells slots) (hx : p.tables.exec = Jvm.exec) (hby : c.code = B) {b : Addr} {o : Int} (hd : decode B pc = .ok (.ifnull o, 3)) (hp : pc + 3 = pc')
    (k : own_E p.tables e below G (T.setTop (mkF m pc' Ls (st)))) : own_E p.tables e below G (T.setTop (mkF m pc Ls (.ref b :: st))) := by
  subst hp; exact own_go (fun t q => XS.ifnullNo X.here hx rfl (hb hby hd) rfl q) k
theorem own_ifnonnullN (X : Stand p l e R s m args below meth c T locs cells slots) (hx : p.tables.exec = Jvm.exec) (hby : c.code = B)  {o : Int} (hd : decode B pc = .ok (.ifnonnull o, 3)) (hp : pc + 3 = pc')
    (k : own_E p.tables e below G (T.setTop (mkF m pc' Ls (st)))) : own_E p.tables e below G (T.setTop (mkF m pc Ls (.null :: st))) := by
  subst hp; exact own_go (fun t q => XS.ifnonnullNo X.here hx rfl (hb hby hd) rfl q) k
theorem own_acmp (X : Stand p l e R s m args below meth c T locs cells slots) (hx : p.tables.exec = Jvm.exec) (hby : c.code = B) {cd : ClassFile.ACond} {x y : Value} {o : Int} {same : Bool} (hd : decode B pc = .ok (.if_acmp cd o, 3)) (h1 : x.isRef = true) (h2 : y.isRef = true) (hq : decide (x = y) = same) (ho : 0 ≤ (pc : Int) + o) (hp : pc' = if acV cd same = true then ((pc : Int) + o).toNat else pc + 3)
    (k : own_E p.tables e below G (T.setTop (mkF m pc' Ls (st)))) : own_E p.tables e below G (T.setTop (mkF m pc Ls (y :: x :: st))) := own_go (fun t q => Jvm.RoadKit.acmp (g := mkF m pc Ls (y :: x :: st)) X hx rfl h1 h2 rfl (hb hby hd) rfl hq ho hp q) k
/-- what a body owes at its end -/
def own_End (s : State) (below : List Frame) (Q : Option Value → Heap → List Loc → Prop) (C S : Nat) (s₂ : State) (o : Outcome) : Prop := s₂.status = .running ∧ Ended s₂ below o ∧ ∃ v L, o = .returned v ∧ Q v s₂.heap L ∧ FrameEnd s o s₂ L C S
theorem own_ret (X : Stand p l e R s m args below meth c T locs cells slots) {Q : Option Value → Heap → List Loc → Prop} {C S : Nat} {v : Option Value} (hv : meth.sig.returnType = none → v = none) (hlocks : meth.locks = false)
    (hst : ∀ fs : List Frame, (∀ (f : JFrame) (acts : List Action), f.method = m → f.locked = none → f.entered = [] → (doReturn e (T.setTop f) acts v).1 = T.setFrames fs) → Steps p.tables e below (T.setTop (mkF m pc Ls st)) (T.setFrames fs))
    (hq : Q v T.heap locs) (hc : cells ≤ C) (hs : slots ≤ S) : own_E p.tables e below (own_End s below Q C S) (T.setTop (mkF m pc Ls st)) := by
  obtain ⟨fs, hr, hrun, hended, hW, hsame⟩ := X.leave hv hlocks
  exact ⟨_, _, hst fs hr, hrun, hended, v, locs, rfl, hq, ⟨_, rfl⟩, hW, hsame.mono hc hs⟩
theorem own_retN (X : Stand p l e R s m args below meth c T locs cells slots) (hx : p.tables.exec = Jvm.exec) (hby : c.code = B) {Q : Option Value → Heap → List Loc → Prop} {C S : Nat} {t : FieldType} {z z' : Int32} (hlocks : meth.locks = false) (hret : meth.sig.returnType = some t) (ht : t = .boolean ∨ t = .byte ∨ t = .char ∨ t = .short)
    (hd : decode B pc = .ok (.ireturn, 1)) (hz : nar t z = z') (hq : Q (some (.int z')) T.heap locs) (hc : cells ≤ C) (hs : slots ≤ S) : own_E p.tables e below (own_End s below Q C S) (T.setTop (mkF m pc Ls (.int z :: st))) :=
  own_ret X (fun h => by rw [hret] at h; cases h) hlocks (fun fs hl => retN X hx (t := t) hret ht (hb hby hd) (by rw [hz]; exact hl)) hq hc hs
theorem own_retI (X : Stand p l e R s m args below meth c T locs cells slots) (hx : p.tables.exec = Jvm.exec) (hby : c.code = B) {Q : Option Value → Heap → List Loc → Prop} {C S : Nat} {z : Int32} (hlocks : meth.locks = false) (hret : meth.sig.returnType = some .int)
    (hd : decode B pc = .ok (.ireturn, 1)) (hq : Q (some (.int z)) T.heap locs) (hc : cells ≤ C) (hs : slots ≤ S) : own_E p.tables e below (own_End s below Q C S) (T.setTop (mkF m pc Ls (.int z :: st))) :=
  own_ret X (fun h => by rw [hret] at h; cases h) hlocks (fun fs hl => retOut X hx hret rfl (Or.inl ⟨rfl, Or.inl rfl, _, rfl⟩) (hb hby hd) hl) hq hc hs
theorem own_retL (X : Stand p l e R s m args below meth c T locs cells slots) (hx : p.tables.exec = Jvm.exec) (hby : c.code = B) {Q : Option Value → Heap → List Loc → Prop} {C S : Nat} {z : Int64} (hlocks : meth.locks = false) (hret : meth.sig.returnType = some .long)
    (hd : decode B pc = .ok (.lreturn, 1)) (hq : Q (some (.long z)) T.heap locs) (hc : cells ≤ C) (hs : slots ≤ S) : own_E p.tables e below (own_End s below Q C S) (T.setTop (mkF m pc Ls (.long z :: st))) :=
  own_ret X (fun h => by rw [hret] at h; cases h) hlocks (fun fs hl => retOut X hx hret rfl (Or.inr (Or.inl ⟨rfl, rfl, _, rfl⟩)) (hb hby hd) hl) hq hc hs
theorem own_retD (X : Stand p l e R s m args below meth c T locs cells slots) (hx : p.tables.exec = Jvm.exec) (hby : c.code = B) {Q : Option Value → Heap → List Loc → Prop} {C S : Nat} {z : UInt64} (hlocks : meth.locks = false) (hret : meth.sig.returnType = some .double)
    (hd : decode B pc = .ok (.dreturn, 1)) (hq : Q (some (.double z)) T.heap locs) (hc : cells ≤ C) (hs : slots ≤ S) : own_E p.tables e below (own_End s below Q C S) (T.setTop (mkF m pc Ls (.double z :: st))) :=
  own_ret X (fun h => by rw [hret] at h; cases h) hlocks (fun fs hl => retOut X hx hret rfl (Or.inr (Or.inr (Or.inl ⟨rfl, rfl, _, rfl⟩))) (hb hby hd) hl) hq hc hs
theorem own_retA (X : Stand p l e R s m args below meth c T locs cells slots) (hx : p.tables.exec = Jvm.exec) (hby : c.code = B) {Q : Option Value → Heap → List Loc → Prop} {C S : Nat} {t : FieldType} {v : Value} (hlocks : meth.locks = false) (hret : meth.sig.returnType = some t) (ht : t.isReference = true) (hv : v.isRef = true)
    (hd : decode B pc = .ok (.areturn, 1)) (hq : Q (some v) T.heap locs) (hc : cells ≤ C) (hs : slots ≤ S) : own_E p.tables e below (own_End s below Q C S) (T.setTop (mkF m pc Ls (v :: st))) :=
  own_ret X (fun h => by rw [hret] at h; cases h) hlocks (fun fs hl => retOut X hx hret (by cases t <;> first | (cases ht; done) | (rcases ref_cases hv with rfl | ⟨_, rfl⟩ <;> rfl)) (Or.inr (Or.inr (Or.inr (Or.inr ⟨rfl, ht, hv⟩)))) (hb hby hd) hl) hq hc hs
theorem own_ret0 (X : Stand p l e R s m args below meth c T locs cells slots) (hx : p.tables.exec = Jvm.exec) (hby : c.code = B) {Q : Option Value → Heap → List Loc → Prop} {C S : Nat} (hlocks : meth.locks = false) (hret : meth.sig.returnType = none)
    (hd : decode B pc = .ok (.return_, 1)) (hq : Q none T.heap locs) (hc : cells ≤ C) (hs : slots ≤ S) : own_E p.tables e below (own_End s below Q C S) (T.setTop (mkF m pc Ls [])) :=
  own_ret X (fun _ => rfl) hlocks (fun fs hl => X.returnOut hx hret (hb hby hd) hl) hq hc hs
theorem own_callS (X : Stand p l e R s m args below meth c T locs cells slots) (hx : p.tables.exec = Jvm.exec) (hby : c.code = B) {Z : State} {a0 : Array Value} {h : Heap} {own : String} {index nl : Nat} {as' : Array Value} {W cc ss : Nat} {Q : Option Value → Heap → List Loc → Prop} {y : MethodName} {bytes : ByteArray} {maxL : Nat} {ret : Option FieldType} (hml : c.maxLocals = nl) (hZ : Z.Warmed39 s.vm) (hown : s.vm.findClass own = some m.cls)
    (w1 : (Cond.methodLink own index y).before a0 Z = true) (w2 : (Cond.static y).before a0 Z = true) (w3 : (Cond.initialized y.cls).before a0 Z = true) (w4 : (Cond.code y bytes maxL ret).before a0 Z = true) (hy : y.cls ≠ "java/lang/invoke/MethodHandle" ∧ y.cls ≠ "java/lang/invoke/VarHandle")
    (hK : Back l R p e below s args y 3 W (fun P a => a = as' ∧ P.U.heap = h ∧ P.cells + cc ≤ R.cells ∧ P.slots + ss ≤ R.slots) (fun P _ v B => ∃ L, Q v B.U.heap L ∧ B.locs = P.locs ++ L ∧ B.cells = P.cells + cc ∧ B.slots = P.slots + ss)) (hsz : Ls.size = nl) {argsL rest : List Value} {ps : List FieldType} {r : Option FieldType} (hpd : parseMethodDescriptor y.desc = some ⟨ps, r⟩) (hlen : argsL.length = ps.length) (hst : st = argsL.reverse ++ rest) (hW : (rest.map fun v => v.category).sum ≤ W)
    (hd : decode B pc = .ok (.invokestatic index, 3)) (hp : pc + 3 = pc') (hargs : argsL.toArray = as') (eT : T.heap = h) (hc : cells + cc ≤ R.cells) (hs : slots + ss ≤ R.slots)
    (k : ∀ (v : Option Value) (T' : State) (h' : Heap) (L : List Loc), Stand p l e R s m args below meth c T' (locs ++ L) (cells + cc) (slots + ss) → T'.heap = h' → Q v h' L → own_E p.tables e below G (T'.setTop (mkF m pc' Ls (v.toList ++ rest)))) : own_E p.tables e below G (T.setTop (mkF m pc Ls st)) := by
  subst hp
  obtain ⟨v, vm₁, ⟨T', L', k', n'⟩, -, X', ⟨L, hQ, q1, q2, q3⟩, stp⟩ := Jvm.LawKit.callS X hx hown (mvT hZ w1) (mvT hZ w2) (mvT hZ w3) (mvT hZ w4) hy hK (g := mkF m pc Ls st) rfl (by rw [hml]; exact hsz) (argsL := argsL) (rest := rest) (lenOf hpd hlen) hst (by show 2 * 0 + _ ≤ _; rw [Nat.mul_zero, Nat.zero_add]; exact hW) (hb hby hd) (fun _ _ => ⟨hargs, eT, hc, hs⟩)
  dsimp only at X' hQ q1 q2 q3 stp
  subst q1 q2 q3
  exact own_go stp (k v T' _ L X' rfl hQ)
theorem own_spec (X : Stand p l e R s m args below meth c T locs cells slots) (hx : p.tables.exec = Jvm.exec) (hby : c.code = B) {Z : State} {a0 : Array Value} {h : Heap} {own : String} {index nl : Nat} {as' : Array Value} {W cc ss : Nat} {Q : Option Value → Heap → List Loc → Prop} {y : MethodName} {bytes : ByteArray} {maxL : Nat} (hml : c.maxLocals = nl) (hZ : Z.Warmed39 s.vm) (hown : s.vm.findClass own = some m.cls) (hy1 : y.name = "<init>")
    (w1 : (Cond.methodLink own index y).before a0 Z = true) (w2 : (Cond.instanceMethod y).before a0 Z = true) (w4 : (Cond.code y bytes maxL none).before a0 Z = true) (hy : y.cls ≠ "java/lang/invoke/MethodHandle" ∧ y.cls ≠ "java/lang/invoke/VarHandle")
    (hK : Back l R p e below s args y 3 W (fun P a => a = as' ∧ P.U.heap = h ∧ P.cells + cc ≤ R.cells ∧ P.slots + ss ≤ R.slots) (fun P _ v B => ∃ L, Q v B.U.heap L ∧ B.locs = P.locs ++ L ∧ B.cells = P.cells + cc ∧ B.slots = P.slots + ss)) (hsz : Ls.size = nl) {a : Addr} {argsL rest : List Value} {ps : List FieldType} {r : Option FieldType} (hpd : parseMethodDescriptor y.desc = some ⟨ps, r⟩) (hlen : argsL.length = ps.length) (hst : st = argsL.reverse ++ .ref a :: rest) (hW : (rest.map fun v => v.category).sum ≤ W)
    (hd : decode B pc = .ok (.invokespecial index, 3)) (hp : pc + 3 = pc') (hargs : (.ref a :: argsL).toArray = as') (eT : T.heap = h) (hc : cells + cc ≤ R.cells) (hs : slots + ss ≤ R.slots)
    (k : ∀ (v : Option Value) (T' : State) (h' : Heap) (L : List Loc), Stand p l e R s m args below meth c T' (locs ++ L) (cells + cc) (slots + ss) → T'.heap = h' → Q v h' L → own_E p.tables e below G (T'.setTop (mkF m pc' Ls (v.toList ++ rest)))) : own_E p.tables e below G (T.setTop (mkF m pc Ls st)) := by
  subst hp
  obtain ⟨v, vm₁, ⟨T', L', k', n'⟩, -, X', ⟨L, hQ, q1, q2, q3⟩, stp⟩ := X.specialBack hx hy1 hown (mvT hZ w1) (mvT hZ w2) (mvT hZ w4) hy hK (g := mkF m pc Ls st) rfl (by rw [hml]; exact hsz) (Steps.refl _) (a := a) (argsL := argsL) (rest := rest) (lenOf hpd hlen) hst (by show 2 * 0 + _ ≤ _; rw [Nat.mul_zero, Nat.zero_add]; exact hW) (hb hby hd) (fun _ _ => ⟨hargs, eT, hc, hs⟩)
  dsimp only at X' hQ q1 q2 q3 stp
  subst q1 q2 q3
  exact own_tr stp (k v T' _ L X' rfl hQ)
theorem own_virt (X : Stand p l e R s m args below meth c T locs cells slots) (hx : p.tables.exec = Jvm.exec) (hby : c.code = B) {Z : State} {a0 : Array Value} {h : Heap} {own : String} {index nl : Nat} {as' : Array Value} {W cc ss : Nat} {Q : Option Value → Heap → List Loc → Prop} {C : String} {y z : MethodName} (hml : c.maxLocals = nl) (hZ : Z.Warmed39 s.vm) (hown : s.vm.findClass own = some m.cls)
    (w1 : (Cond.methodLink own index y).before a0 Z = true) (w2 : (Cond.declares y).before a0 Z = true) (hnf : NotFace s y) (w3 : (Cond.selects C y z).before a0 Z = true) (w4 : (Cond.instanceMethod z).before a0 Z = true) (hy : y.cls ≠ "java/lang/invoke/MethodHandle" ∧ y.cls ≠ "java/lang/invoke/VarHandle")
    (hK : Back l R p e below s args z 3 W (fun P a => a = as' ∧ P.U.heap = h ∧ P.cells + cc ≤ R.cells ∧ P.slots + ss ≤ R.slots) (fun P _ v B => ∃ L, Q v B.U.heap L ∧ B.locs = P.locs ++ L ∧ B.cells = P.cells + cc ∧ B.slots = P.slots + ss)) (hsz : Ls.size = nl) {a : Addr} (hE : Exa Z h a C) {argsL rest : List Value} {ps : List FieldType} {r : Option FieldType} (hpd : parseMethodDescriptor y.desc = some ⟨ps, r⟩) (hlen : argsL.length = ps.length) (hst : st = argsL.reverse ++ .ref a :: rest) (hW : (rest.map fun v => v.category).sum ≤ W)
    (hd : decode B pc = .ok (.invokevirtual index, 3)) (hp : pc + 3 = pc') (hargs : (.ref a :: argsL).toArray = as') (eT : T.heap = h) (hc : cells + cc ≤ R.cells) (hs : slots + ss ≤ R.slots)
    (k : ∀ (v : Option Value) (T' : State) (h' : Heap) (L : List Loc), Stand p l e R s m args below meth c T' (locs ++ L) (cells + cc) (slots + ss) → T'.heap = h' → Q v h' L → own_E p.tables e below G (T'.setTop (mkF m pc' Ls (v.toList ++ rest)))) : own_E p.tables e below G (T.setTop (mkF m pc Ls st)) := by
  subst hp
  obtain ⟨cq, kq, qa, qb, qc⟩ := isOf hZ eT hE
  obtain ⟨v, vm₁, ⟨T', L', k', n'⟩, -, X', ⟨L, hQ, q1, q2, q3⟩, stp⟩ := X.virtualBack hx hown (mvT hZ w1) (mvT hZ w2) hnf (mvT hZ w3) (mvT hZ w4) hy hK qa qc (g := mkF m pc Ls st) rfl (by rw [hml]; exact hsz) (Steps.refl _) (argsL := argsL) (rest := rest) (lenOf hpd hlen) hst (by show 2 * 0 + _ ≤ _; rw [Nat.mul_zero, Nat.zero_add]; exact hW) (hb hby hd) (fun _ _ => ⟨hargs, eT, hc, hs⟩)
  dsimp only at X' hQ q1 q2 q3 stp
  subst q1 q2 q3
  exact own_tr stp (k v T' _ L X' rfl hQ)
theorem own_priv (X : Stand p l e R s m args below meth c T locs cells slots) (hx : p.tables.exec = Jvm.exec) (hby : c.code = B) {Z : State} {a0 : Array Value} {h : Heap} {own : String} {index nl : Nat} {as' : Array Value} {W cc ss : Nat} {Q : Option Value → Heap → List Loc → Prop} {y : MethodName} {bytes : ByteArray} {maxL : Nat} {ret : Option FieldType} (hml : c.maxLocals = nl) (hZ : Z.Warmed39 s.vm) (hown : s.vm.findClass own = some m.cls)
    (w1 : (Cond.methodLink own index y).before a0 Z = true) (w2 : (Cond.instanceMethod y).before a0 Z = true) (w3 : (Cond.selects y.cls y y).before a0 Z = true) (w5 : (Cond.privateMethod y).before a0 Z = true) (w4 : (Cond.code y bytes maxL ret).before a0 Z = true) (hy : y.cls ≠ "java/lang/invoke/MethodHandle" ∧ y.cls ≠ "java/lang/invoke/VarHandle")
    (hK : Back l R p e below s args y 3 W (fun P a => a = as' ∧ P.U.heap = h ∧ P.cells + cc ≤ R.cells ∧ P.slots + ss ≤ R.slots) (fun P _ v B => ∃ L, Q v B.U.heap L ∧ B.locs = P.locs ++ L ∧ B.cells = P.cells + cc ∧ B.slots = P.slots + ss)) (hsz : Ls.size = nl) {a : Addr} {C : String} (hE : Exa Z h a C) {argsL rest : List Value} {ps : List FieldType} {r : Option FieldType} (hpd : parseMethodDescriptor y.desc = some ⟨ps, r⟩) (hlen : argsL.length = ps.length) (hst : st = argsL.reverse ++ .ref a :: rest) (hW : (rest.map fun v => v.category).sum ≤ W)
    (hd : decode B pc = .ok (.invokevirtual index, 3)) (hp : pc + 3 = pc') (hargs : (.ref a :: argsL).toArray = as') (eT : T.heap = h) (hc : cells + cc ≤ R.cells) (hs : slots + ss ≤ R.slots)
    (k : ∀ (v : Option Value) (T' : State) (h' : Heap) (L : List Loc), Stand p l e R s m args below meth c T' (locs ++ L) (cells + cc) (slots + ss) → T'.heap = h' → Q v h' L → own_E p.tables e below G (T'.setTop (mkF m pc' Ls (v.toList ++ rest)))) : own_E p.tables e below G (T.setTop (mkF m pc Ls st)) := by
  subst hp
  obtain ⟨cq, qa, qb⟩ := hE.cell
  obtain ⟨v, vm₁, ⟨T', L', k', n'⟩, -, X', ⟨L, hQ, q1, q2, q3⟩, stp⟩ := X.privateBack hx hown (mvT hZ w1) (mvT hZ w2) (mvT hZ w3) (Cond.privateMethod_at (mvP hZ w5 (args := #[]))) (mvT hZ w4) hy hK (g := mkF m pc Ls st) rfl (by rw [hml]; exact hsz) (Steps.refl _) (a := a) (by rw [eT]; exact qa) qb (argsL := argsL) (rest := rest) (lenOf hpd hlen) hst (by show 2 * 0 + _ ≤ _; rw [Nat.mul_zero, Nat.zero_add]; exact hW) (hb hby hd) (fun _ _ => ⟨hargs, eT, hc, hs⟩)
  dsimp only at X' hQ q1 q2 q3 stp
  subst q1 q2 q3
  exact own_tr stp (k v T' _ L X' rfl hQ)
theorem own_intf (X : Stand p l e R s m args below meth c T locs cells slots) (hx : p.tables.exec = Jvm.exec) (hby : c.code = B) {Z : State} {a0 : Array Value} {h : Heap} {own : String} {index nl : Nat} {as' : Array Value} {W cc ss : Nat} {Q : Option Value → Heap → List Loc → Prop} {C : String} {y z : MethodName} {cnt : Nat} (hml : c.maxLocals = nl) (hZ : Z.Warmed39 s.vm) (hown : s.vm.findClass own = some m.cls)
    (w1 : (Cond.methodLink own index y).before args s = true) (w2 : (Cond.declares y).before args s = true) (w5 : (Cond.interfaceMethod y.cls y.cls y.name y.desc).before args s = true) (w3 : (Cond.selects C y z).before args s = true) (w4 : (Cond.instanceMethod z).before args s = true) (w6 : (Cond.publicMethod z).before args s = true) (w7 : (Cond.unhidden C y.name y.desc).before args s = true) (w8 : (Cond.castable C y.cls).before args s = true) (hy : y.cls ≠ "java/lang/invoke/MethodHandle" ∧ y.cls ≠ "java/lang/invoke/VarHandle")
    (hK : Back l R p e below s args z 5 W (fun P a => a = as' ∧ P.U.heap = h ∧ P.cells + cc ≤ R.cells ∧ P.slots + ss ≤ R.slots) (fun P _ v B => ∃ L, Q v B.U.heap L ∧ B.locs = P.locs ++ L ∧ B.cells = P.cells + cc ∧ B.slots = P.slots + ss)) (hsz : Ls.size = nl) {a : Addr} (hE : Exa Z h a C) {argsL rest : List Value} {ps : List FieldType} {r : Option FieldType} (hpd : parseMethodDescriptor y.desc = some ⟨ps, r⟩) (hlen : argsL.length = ps.length) (hst : st = argsL.reverse ++ .ref a :: rest) (hW : (rest.map fun v => v.category).sum ≤ W)
    (hd : decode B pc = .ok (.invokeinterface index cnt, 5)) (hp : pc + 5 = pc') (hargs : (.ref a :: argsL).toArray = as') (eT : T.heap = h) (hc : cells + cc ≤ R.cells) (hs : slots + ss ≤ R.slots)
    (k : ∀ (v : Option Value) (T' : State) (h' : Heap) (L : List Loc), Stand p l e R s m args below meth c T' (locs ++ L) (cells + cc) (slots + ss) → T'.heap = h' → Q v h' L → own_E p.tables e below G (T'.setTop (mkF m pc' Ls (v.toList ++ rest)))) : own_E p.tables e below G (T.setTop (mkF m pc Ls st)) := by
  subst hp
  obtain ⟨cq, kq, qa, qb, qc⟩ := isOf hZ eT hE
  obtain ⟨v, vm₁, ⟨T', L', k', n'⟩, -, X', ⟨L, hQ, q1, q2, q3⟩, stp⟩ := X.interfaceBack hx hown w1 w2 w5 w3 w4 w6 w7 w8 hy hK qa qb qc (g := mkF m pc Ls st) rfl (by rw [hml]; exact hsz) (Steps.refl _) (argsL := argsL) (rest := rest) (lenOf hpd hlen) hst (by show 2 * 0 + _ ≤ _; rw [Nat.mul_zero, Nat.zero_add]; exact hW) (hb hby hd) (fun _ _ => ⟨hargs, eT, hc, hs⟩)
  dsimp only at X' hQ q1 q2 q3 stp
  subst q1 q2 q3
  exact own_tr stp (k v T' _ L X' rfl hQ)
end OwnSteps

section OwnHeap
variable {p : Program} {l : Launch} {e : Env} {R : Room} {s : State} {m : MethodId} {args : Array Value} {below : List Frame} {meth : Method} {c : Code} {T : State} {locs : List Loc} {cells slots : Nat} {G : State → Outcome → Prop} {B : ByteArray} {pc pc' : Nat} {Ls Ls' : Array Slot} {st : List Value} {Z : State} {a0 : Array Value} {h h' h'' : Heap}
theorem own_xr : Ext h h := ⟨Nat.le_refl _, fun _ _ q => q⟩
theorem own_xt (E : Ext h h') (E' : Ext h' h'') : Ext h h'' := ⟨Nat.le_trans E.1 E'.1, fun a c q => E'.2 a c (E.2 a c q)⟩
theorem own_xk {ws : List Addr} (E : Ext h h') (K : Keep h' h'' ws) (q : ∀ x ∈ ws, h.size ≤ x) : Ext h h'' := ⟨Nat.le_trans E.1 K.1, fun a c r => K.2.1 a c (E.2 a c r) fun z => absurd (Array.getElem?_eq_some_iff.mp r).1 (Nat.not_lt.mpr (q a z))⟩
theorem own_xw {a : Addr} {sl : Nat} {v : Value} (E : Ext h h') (W : Wr h' h'' a sl v) (q : h.size ≤ a) : Ext h h'' := own_xk E (Keep.of_wr W) (allS q all0)
theorem own_kx {ws : List Addr} (E : Ext h h') : Keep h h' ws := (Keep.refl h ws).ext E
theorem own_fr1 {k : Nat} {L : List Loc} (N : Fr k L) {a : Addr} {sl : Nat} (q : k ≤ a) : Fr k (L ++ [⟨a, sl⟩]) := N.app fun y hy => by cases List.mem_singleton.mp hy; exact q
/-- a body's contract: called with these arguments over the heap h0 it returns as Q says -/
def own_Met (l : Launch) (Z : State) (x : MethodName) (bytes : ByteArray) (maxL : Nat) (ret : Option FieldType) (rm : Room) (as' : Array Value) (h0 : Heap) (Q : Option Value → Heap → List Loc → Prop) : Prop :=
  ∀ ws : List Jvm.Cond, MetFree l x (head1 (Jvm.Cond.code x bytes maxL ret :: ws) rm) (fun a U => a = as' ∧ Z.Warmed39 U.vm ∧ U.heap = h0) (fun _ _ _ _ _ => True) (fun _ U o U' => ∃ v L, o = .returned v ∧ Q v U'.heap L ∧ FrameEnd U o U' L rm.cells rm.slots)
theorem own_body {x : MethodName} {bytes : ByteArray} {maxL : Nat} {ret : Option FieldType} {rm : Room} {as' : Array Value} {h0 : Heap} {Q : Option Value → Heap → List Loc → Prop} (hpl : plainFor x = true)
    (body : ∀ (p : Program) (e : Env) (s : State) (m : MethodId) (below : List Frame) (meth : Method) (c : Code) (s₁ : State), p.tables.exec = Jvm.exec → c.code = bytes → c.maxLocals = maxL → s.vm.findClass x.cls = some m.cls → meth.name = x.name → meth.locks = false → meth.sig.returnType = ret → Z.Warmed39 s.vm → Stand p l e rm s m as' below meth c s₁ [] 0 0 → s₁.heap = h0 →
      own_E p.tables e below (own_End s below Q rm.cells rm.slots) (s₁.setTop (entryFrame m as' maxL))) : own_Met l Z x bytes maxL ret rm as' h0 Q := by
  intro ws
  refine MetFree.of_bodySF hpl hisR ?_
  intro p e s m args below meth c s₁ Bd hml0 hP hK
  obtain ⟨rfl, hZ, hh⟩ := hP
  obtain ⟨s₂, o, q1, q2, q3, q4⟩ := body p e s m below meth c s₁ Bd.exec Bd.bytes hml0 (findClass_of_methodNamed Bd.named) (name_of_methodNamed Bd.named Bd.method).1 (BodyLoose.notSynchronized Bd) Bd.returns hZ (Stand.of_body Bd) (by rw [← hh, Bd.state]; rfl)
  exact ⟨s₂, o, q1, q2, q3, q4⟩
theorem own_back {y : MethodName} {bytes : ByteArray} {maxL : Nat} {ret : Option FieldType} {rm : Room} {len W : Nat} {as' : Array Value} {Q : Option Value → Heap → List Loc → Prop} (hM : own_Met l Z y bytes maxL ret rm as' h Q)
    (hZ : Z.Warmed39 s.vm) (wc : (Jvm.Cond.code y bytes maxL ret).before a0 Z = true) (wz : (Jvm.Cond.initialized y.cls).before a0 Z = true) (hf : rm.frames + 1 ≤ R.frames) (hl : W + (maxL + 11) + rm.locals ≤ R.locals) :
    Back l R p e below s args y len W (fun A a => a = as' ∧ A.U.heap = h ∧ A.cells + rm.cells ≤ R.cells ∧ A.slots + rm.slots ≤ R.slots)
      (fun A _ v B => ∃ L, Q v B.U.heap L ∧ B.locs = A.locs ++ L ∧ B.cells = A.cells + rm.cells ∧ B.slots = A.slots + rm.slots) := backOf (hM []) hZ wc wz hf hl
theorem own_enter {m : MethodId} {A : Array Value} {ml : Nat} {Ls : Array Slot} (ef : entryFrame m A ml = mkF m 0 Ls []) (k : own_E p.tables e below G (T.setTop (mkF m 0 Ls []))) : own_E p.tables e below G (T.setTop (entryFrame m A ml)) := own_go (fun _ q => castTop ef q) k
theorem own_callM (X : Stand p l e R s m args below meth c T locs cells slots) (hx : p.tables.exec = Jvm.exec) (hby : c.code = B) {own : String} {index nl : Nat} {as' : Array Value} {cc ss maxL : Nat} {bytes : ByteArray} {ret : Option FieldType} {rm : Room} {Q : Option Value → Heap → List Loc → Prop} {y : MethodName} (hml : c.maxLocals = nl) (hZ : Z.Warmed39 s.vm) (hown : s.vm.findClass own = some m.cls) (w1 : (Jvm.Cond.methodLink own index y).before a0 Z = true) (w2 : (Jvm.Cond.static y).before a0 Z = true) (w3 : (Jvm.Cond.initialized y.cls).before a0 Z = true) (w4 : (Jvm.Cond.code y bytes maxL ret).before a0 Z = true) (hy : y.cls ≠ "java/lang/invoke/MethodHandle" ∧ y.cls ≠ "java/lang/invoke/VarHandle")
    (hM : own_Met l Z y bytes maxL ret rm as' h Q) (W : Nat) (hcc : rm.cells = cc) (hss : rm.slots = ss) (hf : rm.frames + 1 ≤ R.frames) (hl : W + (maxL + 11) + rm.locals ≤ R.locals) (hsz : Ls.size = nl) {argsL rest : List Value} {ps : List FieldType} {r : Option FieldType} (hpd : parseMethodDescriptor y.desc = some ⟨ps, r⟩) (hlen : argsL.length = ps.length) (hst : st = argsL.reverse ++ rest) (hW : (rest.map fun v => v.category).sum ≤ W) (hd : decode B pc = .ok (.invokestatic index, 3)) (hp : pc + 3 = pc') (hargs : argsL.toArray = as') (eT : T.heap = h) (hc : cells + cc ≤ R.cells) (hs : slots + ss ≤ R.slots)
    (k : ∀ (v : Option Value) (T' : State) (h' : Heap) (L : List Loc), Stand p l e R s m args below meth c T' (locs ++ L) (cells + cc) (slots + ss) → T'.heap = h' → Q v h' L → own_E p.tables e below G (T'.setTop (mkF m pc' Ls (v.toList ++ rest)))) : own_E p.tables e below G (T.setTop (mkF m pc Ls st)) := by
  subst hcc hss
  exact own_callS X hx hby hml hZ hown w1 w2 w3 w4 hy (own_back hM hZ w4 w3 hf hl) hsz hpd hlen hst hW hd hp hargs eT hc hs k
theorem own_specM (X : Stand p l e R s m args below meth c T locs cells slots) (hx : p.tables.exec = Jvm.exec) (hby : c.code = B) {own : String} {index nl : Nat} {as' : Array Value} {cc ss maxL : Nat} {bytes : ByteArray} {rm : Room} {Q : Option Value → Heap → List Loc → Prop} {y : MethodName} (hml : c.maxLocals = nl) (hZ : Z.Warmed39 s.vm) (hown : s.vm.findClass own = some m.cls) (hy1 : y.name = "<init>") (w1 : (Jvm.Cond.methodLink own index y).before a0 Z = true) (w2 : (Jvm.Cond.instanceMethod y).before a0 Z = true) (w3 : (Jvm.Cond.initialized y.cls).before a0 Z = true) (w4 : (Jvm.Cond.code y bytes maxL none).before a0 Z = true) (hy : y.cls ≠ "java/lang/invoke/MethodHandle" ∧ y.cls ≠ "java/lang/invoke/VarHandle")
    (hM : own_Met l Z y bytes maxL none rm as' h Q) (W : Nat) (hcc : rm.cells = cc) (hss : rm.slots = ss) (hf : rm.frames + 1 ≤ R.frames) (hl : W + (maxL + 11) + rm.locals ≤ R.locals) (hsz : Ls.size = nl) {a : Addr} {argsL rest : List Value} {ps : List FieldType} {r : Option FieldType} (hpd : parseMethodDescriptor y.desc = some ⟨ps, r⟩) (hlen : argsL.length = ps.length) (hst : st = argsL.reverse ++ .ref a :: rest) (hW : (rest.map fun v => v.category).sum ≤ W) (hd : decode B pc = .ok (.invokespecial index, 3)) (hp : pc + 3 = pc') (hargs : (.ref a :: argsL).toArray = as') (eT : T.heap = h) (hc : cells + cc ≤ R.cells) (hs : slots + ss ≤ R.slots)
    (k : ∀ (v : Option Value) (T' : State) (h' : Heap) (L : List Loc), Stand p l e R s m args below meth c T' (locs ++ L) (cells + cc) (slots + ss) → T'.heap = h' → Q v h' L → own_E p.tables e below G (T'.setTop (mkF m pc' Ls (v.toList ++ rest)))) : own_E p.tables e below G (T.setTop (mkF m pc Ls st)) := by
  subst hcc hss
  exact own_spec X hx hby hml hZ hown hy1 w1 w2 w4 hy (own_back hM hZ w4 w3 hf hl) hsz hpd hlen hst hW hd hp hargs eT hc hs k
theorem own_virtM (X : Stand p l e R s m args below meth c T locs cells slots) (hx : p.tables.exec = Jvm.exec) (hby : c.code = B) {own : String} {index nl : Nat} {as' : Array Value} {cc ss maxL : Nat} {bytes : ByteArray} {ret : Option FieldType} {rm : Room} {Q : Option Value → Heap → List Loc → Prop} {C : String} {y z : MethodName} (hml : c.maxLocals = nl) (hZ : Z.Warmed39 s.vm) (hown : s.vm.findClass own = some m.cls) (w1 : (Jvm.Cond.methodLink own index y).before a0 Z = true) (w2 : (Jvm.Cond.declares y).before a0 Z = true) (hnf : NotFace s y) (w5 : (Jvm.Cond.selects C y z).before a0 Z = true) (w6 : (Jvm.Cond.instanceMethod z).before a0 Z = true) (w3 : (Jvm.Cond.initialized z.cls).before a0 Z = true) (w4 : (Jvm.Cond.code z bytes maxL ret).before a0 Z = true) (hy : y.cls ≠ "java/lang/invoke/MethodHandle" ∧ y.cls ≠ "java/lang/invoke/VarHandle")
    (hM : own_Met l Z z bytes maxL ret rm as' h Q) (W : Nat) (hcc : rm.cells = cc) (hss : rm.slots = ss) (hf : rm.frames + 1 ≤ R.frames) (hl : W + (maxL + 11) + rm.locals ≤ R.locals) (hsz : Ls.size = nl) {a : Addr} (hE : Exa Z h a C) {argsL rest : List Value} {ps : List FieldType} {r : Option FieldType} (hpd : parseMethodDescriptor y.desc = some ⟨ps, r⟩) (hlen : argsL.length = ps.length) (hst : st = argsL.reverse ++ .ref a :: rest) (hW : (rest.map fun v => v.category).sum ≤ W) (hd : decode B pc = .ok (.invokevirtual index, 3)) (hp : pc + 3 = pc') (hargs : (.ref a :: argsL).toArray = as') (eT : T.heap = h) (hc : cells + cc ≤ R.cells) (hs : slots + ss ≤ R.slots)
    (k : ∀ (v : Option Value) (T' : State) (h' : Heap) (L : List Loc), Stand p l e R s m args below meth c T' (locs ++ L) (cells + cc) (slots + ss) → T'.heap = h' → Q v h' L → own_E p.tables e below G (T'.setTop (mkF m pc' Ls (v.toList ++ rest)))) : own_E p.tables e below G (T.setTop (mkF m pc Ls st)) := by
  subst hcc hss
  exact own_virt X hx hby hml hZ hown w1 w2 hnf w5 w6 hy (own_back hM hZ w4 w3 hf hl) hsz hE hpd hlen hst hW hd hp hargs eT hc hs k
theorem own_privM (X : Stand p l e R s m args below meth c T locs cells slots) (hx : p.tables.exec = Jvm.exec) (hby : c.code = B) {own : String} {index nl : Nat} {as' : Array Value} {cc ss maxL : Nat} {bytes : ByteArray} {ret : Option FieldType} {rm : Room} {Q : Option Value → Heap → List Loc → Prop} {C : String} {y : MethodName} (hml : c.maxLocals = nl) (hZ : Z.Warmed39 s.vm) (hown : s.vm.findClass own = some m.cls) (w1 : (Jvm.Cond.methodLink own index y).before a0 Z = true) (w6 : (Jvm.Cond.instanceMethod y).before a0 Z = true) (w5 : (Jvm.Cond.selects y.cls y y).before a0 Z = true) (w7 : (Jvm.Cond.privateMethod y).before a0 Z = true) (w3 : (Jvm.Cond.initialized y.cls).before a0 Z = true) (w4 : (Jvm.Cond.code y bytes maxL ret).before a0 Z = true) (hy : y.cls ≠ "java/lang/invoke/MethodHandle" ∧ y.cls ≠ "java/lang/invoke/VarHandle")
    (hM : own_Met l Z y bytes maxL ret rm as' h Q) (W : Nat) (hcc : rm.cells = cc) (hss : rm.slots = ss) (hf : rm.frames + 1 ≤ R.frames) (hl : W + (maxL + 11) + rm.locals ≤ R.locals) (hsz : Ls.size = nl) {a : Addr} (hE : Exa Z h a C) {argsL rest : List Value} {ps : List FieldType} {r : Option FieldType} (hpd : parseMethodDescriptor y.desc = some ⟨ps, r⟩) (hlen : argsL.length = ps.length) (hst : st = argsL.reverse ++ .ref a :: rest) (hW : (rest.map fun v => v.category).sum ≤ W) (hd : decode B pc = .ok (.invokevirtual index, 3)) (hp : pc + 3 = pc') (hargs : (.ref a :: argsL).toArray = as') (eT : T.heap = h) (hc : cells + cc ≤ R.cells) (hs : slots + ss ≤ R.slots)
    (k : ∀ (v : Option Value) (T' : State) (h' : Heap) (L : List Loc), Stand p l e R s m args below meth c T' (locs ++ L) (cells + cc) (slots + ss) → T'.heap = h' → Q v h' L → own_E p.tables e below G (T'.setTop (mkF m pc' Ls (v.toList ++ rest)))) : own_E p.tables e below G (T.setTop (mkF m pc Ls st)) := by
  subst hcc hss
  exact own_priv X hx hby hml hZ hown w1 w6 w5 w7 w4 hy (own_back hM hZ w4 w3 hf hl) hsz hE hpd hlen hst hW hd hp hargs eT hc hs k
theorem own_intfM (X : Stand p l e R s m args below meth c T locs cells slots) (hx : p.tables.exec = Jvm.exec) (hby : c.code = B) {own : String} {index nl : Nat} {as' : Array Value} {cc ss maxL : Nat} {bytes : ByteArray} {ret : Option FieldType} {rm : Room} {Q : Option Value → Heap → List Loc → Prop} {C : String} {y z : MethodName} {cnt : Nat} (hml : c.maxLocals = nl) (hZ : Z.Warmed39 s.vm) (hown : s.vm.findClass own = some m.cls) (w1 : (Jvm.Cond.methodLink own index y).before args s = true) (w2 : (Jvm.Cond.declares y).before args s = true) (w5 : (Jvm.Cond.interfaceMethod y.cls y.cls y.name y.desc).before args s = true) (w6 : (Jvm.Cond.selects C y z).before args s = true) (w7 : (Jvm.Cond.instanceMethod z).before args s = true) (w8 : (Jvm.Cond.publicMethod z).before args s = true) (w9 : (Jvm.Cond.unhidden C y.name y.desc).before args s = true) (w10 : (Jvm.Cond.castable C y.cls).before args s = true) (w3 : (Jvm.Cond.initialized z.cls).before a0 Z = true) (w4 : (Jvm.Cond.code z bytes maxL ret).before a0 Z = true) (hy : y.cls ≠ "java/lang/invoke/MethodHandle" ∧ y.cls ≠ "java/lang/invoke/VarHandle")
    (hM : own_Met l Z z bytes maxL ret rm as' h Q) (W : Nat) (hcc : rm.cells = cc) (hss : rm.slots = ss) (hf : rm.frames + 1 ≤ R.frames) (hl : W + (maxL + 11) + rm.locals ≤ R.locals) (hsz : Ls.size = nl) {a : Addr} (hE : Exa Z h a C) {argsL rest : List Value} {ps : List FieldType} {r : Option FieldType} (hpd : parseMethodDescriptor y.desc = some ⟨ps, r⟩) (hlen : argsL.length = ps.length) (hst : st = argsL.reverse ++ .ref a :: rest) (hW : (rest.map fun v => v.category).sum ≤ W) (hd : decode B pc = .ok (.invokeinterface index cnt, 5)) (hp : pc + 5 = pc') (hargs : (.ref a :: argsL).toArray = as') (eT : T.heap = h) (hc : cells + cc ≤ R.cells) (hs : slots + ss ≤ R.slots)
    (k : ∀ (v : Option Value) (T' : State) (h' : Heap) (L : List Loc), Stand p l e R s m args below meth c T' (locs ++ L) (cells + cc) (slots + ss) → T'.heap = h' → Q v h' L → own_E p.tables e below G (T'.setTop (mkF m pc' Ls (v.toList ++ rest)))) : own_E p.tables e below G (T.setTop (mkF m pc Ls st)) := by
  subst hcc hss
  exact own_intf (a0 := a0) X hx hby hml hZ hown w1 w2 w5 w6 w7 w8 w9 w10 hy (own_back hM hZ w4 w3 hf hl) hsz hE hpd hlen hst hW hd hp hargs eT hc hs k
theorem own_newO (X : Stand p l e R s m args below meth c T locs cells slots) (hx : p.tables.exec = Jvm.exec) (hby : c.code = B) (hZ : Z.Warmed39 s.vm) {own C : String} {index n : Nat} (hown : s.vm.findClass own = some m.cls) (w : (Jvm.Cond.classLink own index C).before a0 Z = true) (wi : (Jvm.Cond.instantiable C n).before a0 Z = true) (wz : (Jvm.Cond.initialized C).before a0 Z = true) (eT : T.heap = h)
    (hd : decode B pc = .ok (.new index, 3)) (hp : pc + 3 = pc') (hc : cells + 1 ≤ R.cells) (hl : slots + n ≤ R.slots)
    (k : ∀ (T' : State) (h' : Heap) (b : Addr), b = h.size → Stand p l e R s m args below meth c T' locs (cells + 1) (slots + n) → T'.heap = h' → Ext h h' → Exa Z h' b C → (∀ {O nm d : String} {ty : FieldType}, Laid Z a0 C O nm d → parseFieldDescriptor d = some ty → Fld Z h' b O nm d (defaultValue ty)) → own_E p.tables e below G (T'.setTop (mkF m pc' Ls (.ref b :: st)))) : own_E p.tables e below G (T.setTop (mkF m pc Ls (st))) := by
  subst hp
  obtain ⟨T', h', X', e', E', A', D', -, stp⟩ := newO X hx hZ hown w wi wz eT (g := mkF m pc Ls st) rfl (hb hby hd) hc hl
  exact own_go stp (k T' h' _ rfl X' e' E' A' D')
theorem own_newP (X : Stand p l e R s m args below meth c T locs cells slots) (hx : p.tables.exec = Jvm.exec) (hby : c.code = B) (hZ : Z.Warmed39 s.vm) {aty : ArrayType} (w : (Jvm.Cond.arrayClass (newarray.typeOf aty)).before a0 Z = true) (eT : T.heap = h) {n : Int32} {cap : Nat} (hd : decode B pc = .ok (.newarray aty, 2)) (hp : pc + 2 = pc') (hn : ¬ n < 0) (hcap : n.toNatClampNeg ≤ cap) (hbig : cap * 8 ≤ 536870912) (hc : cells + 1 ≤ R.cells) (hl : slots + cap ≤ R.slots)
    (k : ∀ (T' : State) (h' : Heap) (b : Addr) (kA : ClassId), b = h.size → Stand p l e R s m args below meth c T' locs (cells + 1) (slots + cap) → T'.heap = h' → Ext h h' → Arv Z h' b kA (newarray.typeOf aty) n [] (defaultValue (newarray.typeOf aty)) → own_E p.tables e below G (T'.setTop (mkF m pc' Ls (.ref b :: st)))) : own_E p.tables e below G (T.setTop (mkF m pc Ls (.int n :: st))) := by
  subst hp
  obtain ⟨T', h', kA, X', e', E', A', stp⟩ := newP X hx hZ w eT (g := mkF m pc Ls (.int n :: st)) rfl (hb hby hd) rfl hn hcap hbig hc hl
  exact own_go stp (k T' h' _ kA rfl X' e' E' (Arv.new A' hn))
theorem own_newR (X : Stand p l e R s m args below meth c T locs cells slots) (hx : p.tables.exec = Jvm.exec) (hby : c.code = B) (hZ : Z.Warmed39 s.vm) {own C : String} {index : Nat} (hown : s.vm.findClass own = some m.cls) (w1 : (Jvm.Cond.classLink own index C).before a0 Z = true) (w2 : (Jvm.Cond.arrayOver (.object C)).before a0 Z = true) (eT : T.heap = h) {n : Int32} {cap : Nat} (hd : decode B pc = .ok (.anewarray index, 3)) (hp : pc + 3 = pc') (hn : ¬ n < 0) (hcap : n.toNatClampNeg ≤ cap) (hbig : cap * 8 ≤ 536870912) (hc : cells + 1 ≤ R.cells) (hl : slots + cap ≤ R.slots)
    (k : ∀ (T' : State) (h' : Heap) (b : Addr) (kA : ClassId), b = h.size → Stand p l e R s m args below meth c T' locs (cells + 1) (slots + cap) → T'.heap = h' → Ext h h' → Arv Z h' b kA (.object C) n [] .null → Ovr Z kA C → own_E p.tables e below G (T'.setTop (mkF m pc' Ls (.ref b :: st)))) : own_E p.tables e below G (T.setTop (mkF m pc Ls (.int n :: st))) := by
  subst hp
  obtain ⟨T', h', kA, X', e', E', A', O', stp⟩ := newR X hx hZ hown w1 w2 eT (g := mkF m pc Ls (.int n :: st)) rfl (hb hby hd) rfl hn hcap hbig hc hl
  exact own_go stp (k T' h' _ kA rfl X' e' E' (Arv.new A' hn) O')
theorem own_getF (X : Stand p l e R s m args below meth c T locs cells slots) (hx : p.tables.exec = Jvm.exec) (hby : c.code = B) (hZ : Z.Warmed39 s.vm) {own R0 O n d host : String} {index : Nat} (hown : s.vm.findClass own = some m.cls) (w : (Jvm.Cond.fieldLink own index R0 n d).before a0 Z = true ∨ (Jvm.Cond.fieldLinkNest own index R0 n d host).before a0 Z = true) (via : Via Z R0 O n d) (eT : T.heap = h) {a : Addr} {v : Value} (F : Fld Z h a O n d v) (hd : decode B pc = .ok (.getfield index, 3)) (hp : pc + 3 = pc')
    (k : ∀ T' : State, Stand p l e R s m args below meth c T' locs cells slots → T'.heap = h → own_E p.tables e below G (T'.setTop (mkF m pc' Ls (v :: st)))) : own_E p.tables e below G (T.setTop (mkF m pc Ls (.ref a :: st))) := by
  subst hp
  obtain ⟨T', X', e', stp⟩ := getF X hx hZ hown w via eT F (g := mkF m pc Ls (.ref a :: st)) rfl rfl (hb hby hd)
  exact own_go stp (k T' X' e')
theorem own_getS (X : Stand p l e R s m args below meth c T locs cells slots) (hx : p.tables.exec = Jvm.exec) (hby : c.code = B) (hZ : Z.Warmed39 s.vm) {own R0 O n d host : String} {index : Nat} (hown : s.vm.findClass own = some m.cls) (w : (Jvm.Cond.fieldLink own index R0 n d).before a0 Z = true ∨ (Jvm.Cond.fieldLinkNest own index R0 n d host).before a0 Z = true) (via : Via Z R0 O n d) (eT : T.heap = h) {v : Value} (F : Sta Z h O n d v) (hd : decode B pc = .ok (.getstatic index, 3)) (hp : pc + 3 = pc')
    (k : ∀ T' : State, Stand p l e R s m args below meth c T' locs cells slots → T'.heap = h → own_E p.tables e below G (T'.setTop (mkF m pc' Ls (v :: st)))) : own_E p.tables e below G (T.setTop (mkF m pc Ls (st))) := by
  subst hp
  obtain ⟨T', X', e', stp⟩ := getS2 X hx hZ hown w via eT F (g := mkF m pc Ls st) rfl (hb hby hd)
  exact own_go stp (k T' X' e')
theorem own_putF (X : Stand p l e R s m args below meth c T locs cells slots) (hx : p.tables.exec = Jvm.exec) (hby : c.code = B) (hZ : Z.Warmed39 s.vm) {own R0 O n d host C : String} {index kk : Nat} {ty : FieldType} (hown : s.vm.findClass own = some m.cls) (w : (Jvm.Cond.fieldLink own index R0 n d).before a0 Z = true ∨ (Jvm.Cond.fieldLinkNest own index R0 n d host).before a0 Z = true) (via : Via Z R0 O n d) (eT : T.heap = h) {a : Addr} {v old : Value} (F : Fld Z h a O n d old) (A : Exa Z h a C)
    (L : (Jvm.Cond.lays C O n d).before a0 Z = true ∨ ((Jvm.Cond.laysFinal C O n d).before a0 Z = true ∧ own = O ∧ meth.name = "<init>")) (wi : (Jvm.Cond.instantiable C kk).before a0 Z = true) (hty : parseFieldDescriptor d = some ty) (hn : narrow ty v = v) (hf : fits ty v = true) (hd : decode B pc = .ok (.putfield index, 3)) (hp : pc + 3 = pc')
    (k : ∀ (T' : State) (h' : Heap), Stand p l e R s m args below meth c T' (locs ++ [⟨a, Jvm.RoadKit.slotOf Z O n d⟩]) cells slots → T'.heap = h' → Wr h h' a (Jvm.RoadKit.slotOf Z O n d) v → Fld Z h' a O n d v → Exa Z h' a C → own_E p.tables e below G (T'.setTop (mkF m pc' Ls (st)))) : own_E p.tables e below G (T.setTop (mkF m pc Ls (v :: .ref a :: st))) := by
  subst hp
  obtain ⟨T', h', X', e', W', stp⟩ := putF X hx hZ hown w via eT F A L wi hty hn hf (g := mkF m pc Ls (v :: .ref a :: st)) rfl rfl (hb hby hd)
  exact own_go stp (k T' h' X' e' W' (F.same W') (A.wr W'))
theorem own_putFN (X : Stand p l e R s m args below meth c T locs cells slots) (hx : p.tables.exec = Jvm.exec) (hby : c.code = B) (hZ : Z.Warmed39 s.vm) {own R0 O n d C : String} {index kk : Nat} {ty : FieldType} (hown : s.vm.findClass own = some m.cls) (w : (Jvm.Cond.fieldLink own index R0 n d).before a0 Z = true) (via : Via Z R0 O n d) (eT : T.heap = h) {a : Addr} {v v' old : Value} (F : Fld Z h a O n d old) (A : Exa Z h a C)
    (L : (Jvm.Cond.lays C O n d).before a0 Z = true ∨ ((Jvm.Cond.laysFinal C O n d).before a0 Z = true ∧ own = O ∧ meth.name = "<init>")) (wi : (Jvm.Cond.instantiable C kk).before a0 Z = true) (hty : parseFieldDescriptor d = some ty) (hn : narrow ty v = v') (hf : fits ty v' = true) (hd : decode B pc = .ok (.putfield index, 3)) (hp : pc + 3 = pc')
    (k : ∀ (T' : State) (h' : Heap), Stand p l e R s m args below meth c T' (locs ++ [⟨a, Jvm.RoadKit.slotOf Z O n d⟩]) cells slots → T'.heap = h' → Wr h h' a (Jvm.RoadKit.slotOf Z O n d) v' → Fld Z h' a O n d v' → Exa Z h' a C → own_E p.tables e below G (T'.setTop (mkF m pc' Ls (st)))) : own_E p.tables e below G (T.setTop (mkF m pc Ls (v :: .ref a :: st))) := by
  subst hp
  obtain ⟨T', h', X', e', W', stp⟩ := putFN X hx hZ hown w via eT F A L wi hty hn hf (g := mkF m pc Ls (v :: .ref a :: st)) rfl rfl (hb hby hd)
  exact own_go stp (k T' h' X' e' W' (F.same W') (A.wr W'))
theorem own_initO (X : Stand p l e R s m args below meth c T locs cells slots) (hx : p.tables.exec = Jvm.exec) (hby : c.code = B) (hZ : Z.Warmed39 s.vm) {own : String} {idx nl W : Nat} (hml : c.maxLocals = nl) (hown : s.vm.findClass own = some m.cls) (w1 : (Jvm.Cond.methodLink own idx Lib.objectInit).before a0 Z = true) (w2 : (Jvm.Cond.instanceMethod Lib.objectInit).before a0 Z = true) (w3 : (Jvm.Cond.code Lib.objectInit ⟨#[0xb1]⟩ 1 none).before a0 Z = true) (eT : T.heap = h) (hsz : Ls.size = nl) {a : Addr} (hd : decode B pc = .ok (.invokespecial idx, 3)) (hp : pc + 3 = pc') (hf : 1 ≤ R.frames) (hW : (st.map fun v => v.category).sum ≤ W) (hl : W + 12 ≤ R.locals)
    (k : ∀ T' : State, Stand p l e R s m args below meth c T' locs cells slots → T'.heap = h → own_E p.tables e below G (T'.setTop (mkF m pc' Ls (st)))) : own_E p.tables e below G (T.setTop (mkF m pc Ls (.ref a :: st))) := by
  subst hp
  obtain ⟨T', X', e', stp⟩ := initO X hx hZ hown w1 w2 w3 eT (g := mkF m pc Ls (.ref a :: st)) rfl (by rw [hml]; exact hsz) rfl (hb hby hd) hf (W := W) (by show 2 * 0 + _ ≤ _; rw [Nat.mul_zero, Nat.zero_add]; exact hW) hl
  exact own_go stp (k T' X' e')
theorem own_ialoadV (X : Stand p l e R s m args below meth c T locs cells slots) (hx : p.tables.exec = Jvm.exec) (hby : c.code = B) (hZ : Z.Warmed39 s.vm) (eT : T.heap = h) {a : Addr} {kA : ClassId} {z j : Int32} {vs : List Value} {dv v : Value} (A : Arv Z h a kA .int z vs dv) (hj : ¬ j < 0 ∧ j < z) (hv : vs.getD j.toNatClampNeg dv = v) (hd : decode B pc = .ok (.iaload, 1)) (hp : pc + 1 = pc')
    (k : own_E p.tables e below G (T.setTop (mkF m pc' Ls (v :: st)))) : own_E p.tables e below G (T.setTop (mkF m pc Ls (.int j :: .ref a :: st))) := by
  subst hp
  obtain ⟨cl, Ar, -, S, -, H, -⟩ := A
  exact own_go (fun t q => X.iaload hx (by rw [eT]; exact Ar.1) (State.isArrayOf_alike hZ.alike Ar.2.1) Ar.2.2 (inb_of S hj) (H.at (inb_of S hj) hv) (g := mkF m pc Ls (.int j :: .ref a :: st)) rfl rfl (hb hby hd) t q) k
theorem own_laloadV (X : Stand p l e R s m args below meth c T locs cells slots) (hx : p.tables.exec = Jvm.exec) (hby : c.code = B) (hZ : Z.Warmed39 s.vm) (eT : T.heap = h) {a : Addr} {kA : ClassId} {z j : Int32} {vs : List Value} {dv v : Value} (A : Arv Z h a kA .long z vs dv) (hj : ¬ j < 0 ∧ j < z) (hv : vs.getD j.toNatClampNeg dv = v) (hd : decode B pc = .ok (.laload, 1)) (hp : pc + 1 = pc')
    (k : own_E p.tables e below G (T.setTop (mkF m pc' Ls (v :: st)))) : own_E p.tables e below G (T.setTop (mkF m pc Ls (.int j :: .ref a :: st))) := by
  subst hp
  obtain ⟨cl, Ar, -, S, -, H, -⟩ := A
  exact own_go (fun t q => X.laload hx (by rw [eT]; exact Ar.1) (State.isArrayOf_alike hZ.alike Ar.2.1) Ar.2.2 (inb_of S hj) (H.at (inb_of S hj) hv) (g := mkF m pc Ls (.int j :: .ref a :: st)) rfl rfl (hb hby hd) t q) k
theorem own_caloadV (X : Stand p l e R s m args below meth c T locs cells slots) (hx : p.tables.exec = Jvm.exec) (hby : c.code = B) (hZ : Z.Warmed39 s.vm) (eT : T.heap = h) {a : Addr} {kA : ClassId} {z j : Int32} {vs : List Value} {dv v : Value} (A : Arv Z h a kA .char z vs dv) (hj : ¬ j < 0 ∧ j < z) (hv : vs.getD j.toNatClampNeg dv = v) (hd : decode B pc = .ok (.caload, 1)) (hp : pc + 1 = pc')
    (k : own_E p.tables e below G (T.setTop (mkF m pc' Ls (v :: st)))) : own_E p.tables e below G (T.setTop (mkF m pc Ls (.int j :: .ref a :: st))) := by
  subst hp
  obtain ⟨cl, Ar, -, S, -, H, -⟩ := A
  exact own_go (fun t q => X.caload hx (by rw [eT]; exact Ar.1) (State.isArrayOf_alike hZ.alike Ar.2.1) Ar.2.2 (inb_of S hj) (H.at (inb_of S hj) hv) (g := mkF m pc Ls (.int j :: .ref a :: st)) rfl rfl (hb hby hd) t q) k
theorem own_baloadV (X : Stand p l e R s m args below meth c T locs cells slots) (hx : p.tables.exec = Jvm.exec) (hby : c.code = B) (hZ : Z.Warmed39 s.vm) (eT : T.heap = h) {a : Addr} {kA : ClassId} {z j : Int32} {vs : List Value} {dv v : Value} (A : Arv Z h a kA .byte z vs dv) (hj : ¬ j < 0 ∧ j < z) (hv : vs.getD j.toNatClampNeg dv = v) (hd : decode B pc = .ok (.baload, 1)) (hp : pc + 1 = pc')
    (k : own_E p.tables e below G (T.setTop (mkF m pc' Ls (v :: st)))) : own_E p.tables e below G (T.setTop (mkF m pc Ls (.int j :: .ref a :: st))) := by
  subst hp
  obtain ⟨cl, Ar, -, S, -, H, -⟩ := A
  exact own_go (fun t q => X.baloadBytes hx (by rw [eT]; exact Ar.1) (State.isArrayOf_alike hZ.alike Ar.2.1) Ar.2.2 (inb_of S hj) (H.at (inb_of S hj) hv) (g := mkF m pc Ls (.int j :: .ref a :: st)) rfl rfl (hb hby hd) t q) k
theorem own_daloadV (X : Stand p l e R s m args below meth c T locs cells slots) (hx : p.tables.exec = Jvm.exec) (hby : c.code = B) (hZ : Z.Warmed39 s.vm) (eT : T.heap = h) {a : Addr} {kA : ClassId} {z j : Int32} {vs : List Value} {dv v : Value} (A : Arv Z h a kA .double z vs dv) (hj : ¬ j < 0 ∧ j < z) (hv : vs.getD j.toNatClampNeg dv = v) (hd : decode B pc = .ok (.daload, 1)) (hp : pc + 1 = pc')
    (k : own_E p.tables e below G (T.setTop (mkF m pc' Ls (v :: st)))) : own_E p.tables e below G (T.setTop (mkF m pc Ls (.int j :: .ref a :: st))) := by
  subst hp
  obtain ⟨cl, Ar, -, S, -, H, -⟩ := A
  exact own_go (fun t q => X.daload hx (by rw [eT]; exact Ar.1) (State.isArrayOf_alike hZ.alike Ar.2.1) Ar.2.2 (inb_of S hj) (H.at (inb_of S hj) hv) (g := mkF m pc Ls (.int j :: .ref a :: st)) rfl rfl (hb hby hd) t q) k
theorem own_aaloadV (X : Stand p l e R s m args below meth c T locs cells slots) (hx : p.tables.exec = Jvm.exec) (hby : c.code = B) (hZ : Z.Warmed39 s.vm) (eT : T.heap = h) {a : Addr} {kA : ClassId} {ty : FieldType} {z j : Int32} {vs : List Value} {dv v : Value} (A : Arv Z h a kA ty z vs dv) (hty : ty.isReference = true) (hj : ¬ j < 0 ∧ j < z) (hv : vs.getD j.toNatClampNeg dv = v) (hd : decode B pc = .ok (.aaload, 1)) (hp : pc + 1 = pc')
    (k : own_E p.tables e below G (T.setTop (mkF m pc' Ls (v :: st)))) : own_E p.tables e below G (T.setTop (mkF m pc Ls (.int j :: .ref a :: st))) := by
  subst hp
  obtain ⟨cl, Ar, -, S, -, H, -⟩ := A
  exact own_go (fun t q => X.aaload hx (by rw [eT]; exact Ar.1) (State.isArrayOf_alike hZ.alike Ar.2.1) hty Ar.2.2 (inb_of S hj) (H.at (inb_of S hj) hv) (g := mkF m pc Ls (.int j :: .ref a :: st)) rfl rfl (hb hby hd) t q) k
theorem own_alenV (X : Stand p l e R s m args below meth c T locs cells slots) (hx : p.tables.exec = Jvm.exec) (hby : c.code = B) (hZ : Z.Warmed39 s.vm) (eT : T.heap = h) {a : Addr} {kA : ClassId} {ty : FieldType} {z : Int32} {vs : List Value} {dv : Value} (A : Arv Z h a kA ty z vs dv) (hd : decode B pc = .ok (.arraylength, 1)) (hp : pc + 1 = pc')
    (k : own_E p.tables e below G (T.setTop (mkF m pc' Ls (.int z :: st)))) : own_E p.tables e below G (T.setTop (mkF m pc Ls (.ref a :: st))) := by
  subst hp
  obtain ⟨cl, Ar, -, S, N, -, -⟩ := A
  refine own_go (fun t q => X.arraylength hx (by rw [eT]; exact Ar.1) (State.isArrayOf_alike hZ.alike Ar.2.1) (g := mkF m pc Ls (.ref a :: st)) rfl rfl (hb hby hd) t ?_) k
  rw [len_of S N]; exact q
theorem own_stI (X : Stand p l e R s m args below meth c T locs cells slots) (hx : p.tables.exec = Jvm.exec) (hby : c.code = B) (hZ : Z.Warmed39 s.vm) (eT : T.heap = h) {a : Addr} {kA : ClassId} {z j : Int32} {vs : List Value} {dv : Value} {x : Int32} (A : Arv Z h a kA .int z vs dv) (hj : ¬ j < 0 ∧ j < z) (i : Nat) (hi : j.toNatClampNeg = i) (hlen : i < vs.length) (hd : decode B pc = .ok (.iastore, 1)) (hp : pc + 1 = pc')
    (k : ∀ (T' : State) (h' : Heap), Stand p l e R s m args below meth c T' (locs ++ [⟨a, j.toNatClampNeg⟩]) cells slots → T'.heap = h' → Wr h h' a j.toNatClampNeg (.int x) → Arv Z h' a kA .int z (vs.set i (.int x)) dv → own_E p.tables e below G (T'.setTop (mkF m pc' Ls (st)))) : own_E p.tables e below G (T.setTop (mkF m pc Ls (.int x :: .int j :: .ref a :: st))) := by
  subst hp
  obtain ⟨cl, Ar, q, S, N, H, F⟩ := A
  obtain ⟨T', h', X', e', W', stp⟩ := stI X hx hZ eT Ar (j := j) (inb_of S hj) (g := mkF m pc Ls (.int x :: .int j :: .ref a :: st)) rfl rfl (hb hby hd)
  exact own_go stp (k T' h' X' e' W' (Arv.set Ar q S N H F rfl W' i hi hlen))
theorem own_stJ (X : Stand p l e R s m args below meth c T locs cells slots) (hx : p.tables.exec = Jvm.exec) (hby : c.code = B) (hZ : Z.Warmed39 s.vm) (eT : T.heap = h) {a : Addr} {kA : ClassId} {z j : Int32} {vs : List Value} {dv : Value} {x : Int64} (A : Arv Z h a kA .long z vs dv) (hj : ¬ j < 0 ∧ j < z) (i : Nat) (hi : j.toNatClampNeg = i) (hlen : i < vs.length) (hd : decode B pc = .ok (.lastore, 1)) (hp : pc + 1 = pc')
    (k : ∀ (T' : State) (h' : Heap), Stand p l e R s m args below meth c T' (locs ++ [⟨a, j.toNatClampNeg⟩]) cells slots → T'.heap = h' → Wr h h' a j.toNatClampNeg (.long x) → Arv Z h' a kA .long z (vs.set i (.long x)) dv → own_E p.tables e below G (T'.setTop (mkF m pc' Ls (st)))) : own_E p.tables e below G (T.setTop (mkF m pc Ls (.long x :: .int j :: .ref a :: st))) := by
  subst hp
  obtain ⟨cl, Ar, q, S, N, H, F⟩ := A
  obtain ⟨T', h', X', e', W', stp⟩ := stJ X hx hZ eT Ar (j := j) (inb_of S hj) (g := mkF m pc Ls (.long x :: .int j :: .ref a :: st)) rfl rfl (hb hby hd)
  exact own_go stp (k T' h' X' e' W' (Arv.set Ar q S N H F rfl W' i hi hlen))
theorem own_stC (X : Stand p l e R s m args below meth c T locs cells slots) (hx : p.tables.exec = Jvm.exec) (hby : c.code = B) (hZ : Z.Warmed39 s.vm) (eT : T.heap = h) {a : Addr} {kA : ClassId} {z j : Int32} {vs : List Value} {dv : Value} {x : Int32} (A : Arv Z h a kA .char z vs dv) (hj : ¬ j < 0 ∧ j < z) (i : Nat) (hi : j.toNatClampNeg = i) (hlen : i < vs.length) (hd : decode B pc = .ok (.castore, 1)) (hp : pc + 1 = pc')
    (k : ∀ (T' : State) (h' : Heap), Stand p l e R s m args below meth c T' (locs ++ [⟨a, j.toNatClampNeg⟩]) cells slots → T'.heap = h' → Wr h h' a j.toNatClampNeg (.int (nar .char x)) → Arv Z h' a kA .char z (vs.set i (.int (nar .char x))) dv → own_E p.tables e below G (T'.setTop (mkF m pc' Ls (st)))) : own_E p.tables e below G (T.setTop (mkF m pc Ls (.int x :: .int j :: .ref a :: st))) := by
  subst hp
  obtain ⟨cl, Ar, q, S, N, H, F⟩ := A
  obtain ⟨T', h', X', e', W', stp⟩ := stC X hx hZ eT Ar (j := j) (inb_of S hj) (g := mkF m pc Ls (.int x :: .int j :: .ref a :: st)) rfl rfl (hb hby hd)
  exact own_go stp (k T' h' X' e' W' (Arv.set Ar q S N H F (fits_nar_char _) W' i hi hlen))
theorem own_stB (X : Stand p l e R s m args below meth c T locs cells slots) (hx : p.tables.exec = Jvm.exec) (hby : c.code = B) (hZ : Z.Warmed39 s.vm) (eT : T.heap = h) {a : Addr} {kA : ClassId} {z j : Int32} {vs : List Value} {dv : Value} {x : Int32} (A : Arv Z h a kA .byte z vs dv) (hj : ¬ j < 0 ∧ j < z) (i : Nat) (hi : j.toNatClampNeg = i) (hlen : i < vs.length) (hd : decode B pc = .ok (.bastore, 1)) (hp : pc + 1 = pc')
    (k : ∀ (T' : State) (h' : Heap), Stand p l e R s m args below meth c T' (locs ++ [⟨a, j.toNatClampNeg⟩]) cells slots → T'.heap = h' → Wr h h' a j.toNatClampNeg (.int (nar .byte x)) → Arv Z h' a kA .byte z (vs.set i (.int (nar .byte x))) dv → own_E p.tables e below G (T'.setTop (mkF m pc' Ls (st)))) : own_E p.tables e below G (T.setTop (mkF m pc Ls (.int x :: .int j :: .ref a :: st))) := by
  subst hp
  obtain ⟨cl, Ar, q, S, N, H, F⟩ := A
  obtain ⟨T', h', X', e', W', stp⟩ := stB X hx hZ eT Ar (j := j) (inb_of S hj) (g := mkF m pc Ls (.int x :: .int j :: .ref a :: st)) rfl rfl (hb hby hd)
  exact own_go stp (k T' h' X' e' W' (Arv.set Ar q S N H F (fits_nar_byte _) W' i hi hlen))
theorem own_stZ (X : Stand p l e R s m args below meth c T locs cells slots) (hx : p.tables.exec = Jvm.exec) (hby : c.code = B) (hZ : Z.Warmed39 s.vm) (eT : T.heap = h) {a : Addr} {kA : ClassId} {z j : Int32} {vs : List Value} {dv : Value} {x : Int32} (A : Arv Z h a kA .boolean z vs dv) (hj : ¬ j < 0 ∧ j < z) (i : Nat) (hi : j.toNatClampNeg = i) (hlen : i < vs.length) (hd : decode B pc = .ok (.bastore, 1)) (hp : pc + 1 = pc')
    (k : ∀ (T' : State) (h' : Heap), Stand p l e R s m args below meth c T' (locs ++ [⟨a, j.toNatClampNeg⟩]) cells slots → T'.heap = h' → Wr h h' a j.toNatClampNeg (.int (nar .boolean x)) → Arv Z h' a kA .boolean z (vs.set i (.int (nar .boolean x))) dv → own_E p.tables e below G (T'.setTop (mkF m pc' Ls (st)))) : own_E p.tables e below G (T.setTop (mkF m pc Ls (.int x :: .int j :: .ref a :: st))) := by
  subst hp
  obtain ⟨cl, Ar, q, S, N, H, F⟩ := A
  obtain ⟨T', h', X', e', W', stp⟩ := stZ X hx hZ eT Ar (j := j) (inb_of S hj) (g := mkF m pc Ls (.int x :: .int j :: .ref a :: st)) rfl rfl (hb hby hd)
  exact own_go stp (k T' h' X' e' W' (Arv.set Ar q S N H F (fits_nar_bool _) W' i hi hlen))
theorem own_stD (X : Stand p l e R s m args below meth c T locs cells slots) (hx : p.tables.exec = Jvm.exec) (hby : c.code = B) (hZ : Z.Warmed39 s.vm) (eT : T.heap = h) {a : Addr} {kA : ClassId} {z j : Int32} {vs : List Value} {dv : Value} {x : UInt64} (A : Arv Z h a kA .double z vs dv) (hj : ¬ j < 0 ∧ j < z) (i : Nat) (hi : j.toNatClampNeg = i) (hlen : i < vs.length) (hd : decode B pc = .ok (.dastore, 1)) (hp : pc + 1 = pc')
    (k : ∀ (T' : State) (h' : Heap), Stand p l e R s m args below meth c T' (locs ++ [⟨a, j.toNatClampNeg⟩]) cells slots → T'.heap = h' → Wr h h' a j.toNatClampNeg (.double x) → Arv Z h' a kA .double z (vs.set i (.double x)) dv → own_E p.tables e below G (T'.setTop (mkF m pc' Ls (st)))) : own_E p.tables e below G (T.setTop (mkF m pc Ls (.double x :: .int j :: .ref a :: st))) := by
  subst hp
  obtain ⟨cl, Ar, q, S, N, H, F⟩ := A
  obtain ⟨T', h', X', e', W', stp⟩ := stD X hx hZ eT Ar (j := j) (inb_of S hj) (g := mkF m pc Ls (.double x :: .int j :: .ref a :: st)) rfl rfl (hb hby hd)
  exact own_go stp (k T' h' X' e' W' (Arv.set Ar q S N H F rfl W' i hi hlen))
theorem own_stR (X : Stand p l e R s m args below meth c T locs cells slots) (hx : p.tables.exec = Jvm.exec) (hby : c.code = B) (hZ : Z.Warmed39 s.vm) (eT : T.heap = h) {a : Addr} {kA : ClassId} {ty : FieldType} {z j : Int32} {vs : List Value} {dv v : Value} (A : Arv Z h a kA ty z vs dv) (hty : ty.isReference = true) (hv : v.isRef = true) (F : Sto Z h a v) (hj : ¬ j < 0 ∧ j < z) (i : Nat) (hi : j.toNatClampNeg = i) (hlen : i < vs.length) (hd : decode B pc = .ok (.aastore, 1)) (hp : pc + 1 = pc')
    (k : ∀ (T' : State) (h' : Heap), Stand p l e R s m args below meth c T' (locs ++ [⟨a, j.toNatClampNeg⟩]) cells slots → T'.heap = h' → Wr h h' a j.toNatClampNeg v → Arv Z h' a kA ty z (vs.set i v) dv → own_E p.tables e below G (T'.setTop (mkF m pc' Ls (st)))) : own_E p.tables e below G (T.setTop (mkF m pc Ls (v :: .int j :: .ref a :: st))) := by
  subst hp
  obtain ⟨cl, Ar, q, S, N, H, F'⟩ := A
  obtain ⟨T', h', X', e', W', stp⟩ := stR X hx hZ eT Ar (j := j) (inb_of S hj) hty F (g := mkF m pc Ls (v :: .int j :: .ref a :: st)) rfl rfl (hb hby hd)
  exact own_go stp (k T' h' X' e' W' (Arv.set Ar q S N H F' (by cases ty <;> first | (cases hty; done) | (rcases ref_cases hv with rfl | ⟨_, rfl⟩ <;> rfl)) W' i hi hlen))
theorem own_sto {a y : Addr} {kA : ClassId} {ty : FieldType} {z : Int32} {vs : List Value} {dv : Value} {C : String} (A : Arv Z h a kA ty z vs dv) (O : Ovr Z kA C) (I : Ins Z h y C true) : Sto Z h a (.ref y) := by
  obtain ⟨cl, Ar, q, -⟩ := A; exact Sto.ofV Ar q O I
theorem own_ldcI (X : Stand p l e R s m args below meth c T locs cells slots) (hx : p.tables.exec = Jvm.exec) (hby : c.code = B) (hZ : Z.Warmed39 s.vm) {own : String} {index : Nat} {v : Int32} (hown : s.vm.findClass own = some m.cls) (w : (Jvm.Cond.constant own index v).before a0 Z = true) (hd : decode B pc = .ok (.ldc index, 2)) (hp : pc + 2 = pc')
    (k : own_E p.tables e below G (T.setTop (mkF m pc' Ls (.int v :: st)))) : own_E p.tables e below G (T.setTop (mkF m pc Ls (st))) := by
  subst hp; exact own_go (fun t q => X.ldcInt hx hown (mvT hZ w) (g := mkF m pc Ls st) rfl (hb hby hd) t q) k
theorem own_ldcJ (X : Stand p l e R s m args below meth c T locs cells slots) (hx : p.tables.exec = Jvm.exec) (hby : c.code = B) (hZ : Z.Warmed39 s.vm) {own : String} {index : Nat} {v : Int64} (hown : s.vm.findClass own = some m.cls) (w : (Jvm.Cond.constantLong own index v).before a0 Z = true) (hd : decode B pc = .ok (.ldc2_w index, 3)) (hp : pc + 3 = pc')
    (k : own_E p.tables e below G (T.setTop (mkF m pc' Ls (.long v :: st)))) : own_E p.tables e below G (T.setTop (mkF m pc Ls (st))) := by
  subst hp; exact own_go (fun t q => X.ldc2Long hx hown (mvT hZ w) (g := mkF m pc Ls st) rfl (hb hby hd) t q) k
theorem own_ldcD (X : Stand p l e R s m args below meth c T locs cells slots) (hx : p.tables.exec = Jvm.exec) (hby : c.code = B) (hZ : Z.Warmed39 s.vm) {own : String} {index : Nat} {v : UInt64} (hown : s.vm.findClass own = some m.cls) (w : (Jvm.Cond.constantDouble own index v).before a0 Z = true) (hd : decode B pc = .ok (.ldc2_w index, 3)) (hp : pc + 3 = pc')
    (k : own_E p.tables e below G (T.setTop (mkF m pc' Ls (.double v :: st)))) : own_E p.tables e below G (T.setTop (mkF m pc Ls (st))) := by
  subst hp; exact own_go (fun t q => X.ldc2DoubleC hx hown (mvT hZ w) (g := mkF m pc Ls st) rfl (hb hby hd) t q) k
theorem own_cast (X : Stand p l e R s m args below meth c T locs cells slots) (hx : p.tables.exec = Jvm.exec) (hby : c.code = B) (hZ : Z.Warmed39 s.vm) {own K : String} {index : Nat} (hown : s.vm.findClass own = some m.cls) (w : (Jvm.Cond.classLink own index K).before a0 Z = true) (eT : T.heap = h) {a : Addr} (F : Ins Z h a K true) (hd : decode B pc = .ok (.checkcast index, 3)) (hp : pc + 3 = pc')
    (k : ∀ T' : State, Stand p l e R s m args below meth c T' locs cells slots → T'.heap = h → own_E p.tables e below G (T'.setTop (mkF m pc' Ls (.ref a :: st)))) : own_E p.tables e below G (T.setTop (mkF m pc Ls (.ref a :: st))) := by
  subst hp
  obtain ⟨T', X', e', stp⟩ := castY X hx hZ hown w eT F (g := mkF m pc Ls (.ref a :: st)) rfl rfl (hb hby hd)
  exact own_go stp (k T' X' e')
theorem own_instY (X : Stand p l e R s m args below meth c T locs cells slots) (hx : p.tables.exec = Jvm.exec) (hby : c.code = B) (hZ : Z.Warmed39 s.vm) {own K : String} {index : Nat} (hown : s.vm.findClass own = some m.cls) (w : (Jvm.Cond.classLink own index K).before a0 Z = true) (eT : T.heap = h) {a : Addr} (F : Ins Z h a K true) (hd : decode B pc = .ok (.instanceof index, 3)) (hp : pc + 3 = pc')
    (k : ∀ T' : State, Stand p l e R s m args below meth c T' locs cells slots → T'.heap = h → own_E p.tables e below G (T'.setTop (mkF m pc' Ls (.int 1 :: st)))) : own_E p.tables e below G (T.setTop (mkF m pc Ls (.ref a :: st))) := by
  subst hp
  obtain ⟨T', X', e', stp⟩ := instY X hx hZ hown w eT F (g := mkF m pc Ls (.ref a :: st)) rfl rfl (hb hby hd)
  exact own_go stp (k T' X' e')
theorem own_dloadN (X : Stand p l e R s m args below meth c T locs cells slots) (hx : p.tables.exec = Jvm.exec) (hby : c.code = B) {k : Fin 4} {v : UInt64} (hd : decode B pc = .ok (.dload_n k, 1)) (hp : pc + 1 = pc') (hl : Ls[k.val]? = some (.val (.double v)))
    (k : own_E p.tables e below G (T.setTop (mkF m pc' Ls (.double v :: st)))) : own_E p.tables e below G (T.setTop (mkF m pc Ls (st))) := by
  subst hp; exact own_go (fun t q => XS.dloadN X.here hx rfl (hb hby hd) hl q) k
theorem own_dload (X : Stand p l e R s m args below meth c T locs cells slots) (hx : p.tables.exec = Jvm.exec) (hby : c.code = B) {k : Nat} {v : UInt64} (hd : decode B pc = .ok (.dload k, 2)) (hp : pc + 2 = pc') (hl : Ls[k]? = some (.val (.double v)))
    (k : own_E p.tables e below G (T.setTop (mkF m pc' Ls (.double v :: st)))) : own_E p.tables e below G (T.setTop (mkF m pc Ls (st))) := by
  subst hp; exact own_go (fun t q => XS.dload X.here hx rfl (hb hby hd) hl q) k
theorem own_dstoreN (X : Stand p l e R s m args below meth c T locs cells slots) (hx : p.tables.exec = Jvm.exec) (hby : c.code = B) {k : Fin 4} {v : UInt64} (hd : decode B pc = .ok (.dstore_n k, 1)) (hp : pc + 1 = pc') (hl : storeLocals Ls k.val (.double v) = some Ls')
    (k : own_E p.tables e below G (T.setTop (mkF m pc' Ls' (st)))) : own_E p.tables e below G (T.setTop (mkF m pc Ls (.double v :: st))) := by
  subst hp; exact own_go (fun t q => XS.dstoreN X.here hx rfl (hb hby hd) rfl hl q) k
theorem own_dstore (X : Stand p l e R s m args below meth c T locs cells slots) (hx : p.tables.exec = Jvm.exec) (hby : c.code = B) {k : Nat} {v : UInt64} (hd : decode B pc = .ok (.dstore k, 2)) (hp : pc + 2 = pc') (hl : storeLocals Ls k (.double v) = some Ls')
    (k : own_E p.tables e below G (T.setTop (mkF m pc' Ls' (st)))) : own_E p.tables e below G (T.setTop (mkF m pc Ls (.double v :: st))) := by
  subst hp; exact own_go (fun t q => XS.dstore X.here hx rfl (hb hby hd) rfl hl q) k
theorem own_dconst0 (X : Stand p l e R s m args below meth c T locs cells slots) (hx : p.tables.exec = Jvm.exec) (hby : c.code = B) {v : UInt64} (hd : decode B pc = .ok (.dconst 0, 1)) (hp : pc + 1 = pc') (hv : FP.dconst0 = v)
    (k : own_E p.tables e below G (T.setTop (mkF m pc' Ls (.double v :: st)))) : own_E p.tables e below G (T.setTop (mkF m pc Ls (st))) := by
  subst hp; exact own_go (fun t q => XS.dconst0 X.here hx rfl (hb hby hd) hv q) k
theorem own_dconst1 (X : Stand p l e R s m args below meth c T locs cells slots) (hx : p.tables.exec = Jvm.exec) (hby : c.code = B) {v : UInt64} (hd : decode B pc = .ok (.dconst 1, 1)) (hp : pc + 1 = pc') (hv : FP.dconst1 = v)
    (k : own_E p.tables e below G (T.setTop (mkF m pc' Ls (.double v :: st)))) : own_E p.tables e below G (T.setTop (mkF m pc Ls (st))) := by
  subst hp; exact own_go (fun t q => XS.dconst1 X.here hx rfl (hb hby hd) hv q) k
theorem own_i2d (X : Stand p l e R s m args below meth c T locs cells slots) (hx : p.tables.exec = Jvm.exec) (hby : c.code = B) {x : Int32} {v : UInt64} (hd : decode B pc = .ok (.i2d, 1)) (hp : pc + 1 = pc') (hv : FP.i2d x = v)
    (k : own_E p.tables e below G (T.setTop (mkF m pc' Ls (.double v :: st)))) : own_E p.tables e below G (T.setTop (mkF m pc Ls (.int x :: st))) := by
  subst hp; exact own_go (fun t q => XS.i2dS X.here hx rfl (hb hby hd) rfl hv q) k
theorem own_l2d (X : Stand p l e R s m args below meth c T locs cells slots) (hx : p.tables.exec = Jvm.exec) (hby : c.code = B) {x : Int64} {v : UInt64} (hd : decode B pc = .ok (.l2d, 1)) (hp : pc + 1 = pc') (hv : FP.l2d x = v)
    (k : own_E p.tables e below G (T.setTop (mkF m pc' Ls (.double v :: st)))) : own_E p.tables e below G (T.setTop (mkF m pc Ls (.long x :: st))) := by
  subst hp; exact own_go (fun t q => XS.l2dS X.here hx rfl (hb hby hd) rfl hv q) k
theorem own_dadd (X : Stand p l e R s m args below meth c T locs cells slots) (hx : p.tables.exec = Jvm.exec) (hby : c.code = B) {x y v : UInt64} (hd : decode B pc = .ok (.dadd, 1)) (hp : pc + 1 = pc') (hn : Jvm.Free.Fl.NoNaN64 (FP.dadd x y)) (hv : FP.dadd x y = v)
    (k : own_E p.tables e below G (T.setTop (mkF m pc' Ls (.double v :: st)))) : own_E p.tables e below G (T.setTop (mkF m pc Ls (.double y :: .double x :: st))) := by
  subst hp; exact own_go (fun t q => XS.daddS X.here hx rfl (hb hby hd) rfl hn hv q) k
theorem own_dsub (X : Stand p l e R s m args below meth c T locs cells slots) (hx : p.tables.exec = Jvm.exec) (hby : c.code = B) {x y v : UInt64} (hd : decode B pc = .ok (.dsub, 1)) (hp : pc + 1 = pc') (hn : Jvm.Free.Fl.NoNaN64 (FP.dsub x y)) (hv : FP.dsub x y = v)
    (k : own_E p.tables e below G (T.setTop (mkF m pc' Ls (.double v :: st)))) : own_E p.tables e below G (T.setTop (mkF m pc Ls (.double y :: .double x :: st))) := by
  subst hp; exact own_go (fun t q => XS.dsubS X.here hx rfl (hb hby hd) rfl hn hv q) k
theorem own_dmul (X : Stand p l e R s m args below meth c T locs cells slots) (hx : p.tables.exec = Jvm.exec) (hby : c.code = B) {x y v : UInt64} (hd : decode B pc = .ok (.dmul, 1)) (hp : pc + 1 = pc') (hn : Jvm.Free.Fl.NoNaN64 (FP.dmul x y)) (hv : FP.dmul x y = v)
    (k : own_E p.tables e below G (T.setTop (mkF m pc' Ls (.double v :: st)))) : own_E p.tables e below G (T.setTop (mkF m pc Ls (.double y :: .double x :: st))) := by
  subst hp; exact own_go (fun t q => XS.dmulS X.here hx rfl (hb hby hd) rfl hn hv q) k
theorem own_ddiv (X : Stand p l e R s m args below meth c T locs cells slots) (hx : p.tables.exec = Jvm.exec) (hby : c.code = B) {x y v : UInt64} (hd : decode B pc = .ok (.ddiv, 1)) (hp : pc + 1 = pc') (hn : Jvm.Free.Fl.NoNaN64 (FP.ddiv x y)) (hv : FP.ddiv x y = v)
    (k : own_E p.tables e below G (T.setTop (mkF m pc' Ls (.double v :: st)))) : own_E p.tables e below G (T.setTop (mkF m pc Ls (.double y :: .double x :: st))) := by
  subst hp; exact own_go (fun t q => XS.ddivS X.here hx rfl (hb hby hd) rfl hn hv q) k
theorem own_dcmp (X : Stand p l e R s m args below meth c T locs cells slots) (hx : p.tables.exec = Jvm.exec) (hby : c.code = B) {o : CmpOp} {x y : UInt64} {v : Int32} (hd : decode B pc = .ok (.dcmp o, 1)) (hp : pc + 1 = pc') (hv : cmpValue (FP.dcmp x y) o = v)
    (k : own_E p.tables e below G (T.setTop (mkF m pc' Ls (.int v :: st)))) : own_E p.tables e below G (T.setTop (mkF m pc Ls (.double y :: .double x :: st))) := by
  subst hp; exact own_go (fun t q => XS.dcmpS X.here hx rfl (hb hby hd) rfl hv q) k
theorem own_join {tb : Tables} {α : Type} {F : α → State} {P : α → Prop} {A : State} (rest : ∀ z, P z → own_E tb e below G (F z)) (br : (∀ z, P z → own_E tb e below G (F z)) → own_E tb e below G A) : own_E tb e below G A := br rest
/-- an array of arrays, each place filled -/
def own_Grid (Z : State) (h : Heap) (a : Addr) (n : Int32) : Prop := ∃ (kA : ClassId) (ty : FieldType) (xs : List Addr), Arv Z h a kA ty n (xs.map Value.ref) .null ∧ ty.isReference = true ∧ xs.length = n.toNatClampNeg
theorem own_Grid.ext {a : Addr} {n : Int32} (G : own_Grid Z h a n) (E : Ext h h') : own_Grid Z h' a n := by
  obtain ⟨kA, ty, xs, A, r⟩ := G; exact ⟨kA, ty, xs, A.ext E, r⟩
theorem own_grid (X : Stand p l e R s m args below meth c T locs cells slots) (hx : p.tables.exec = Jvm.exec) (hby : c.code = B) (hZ : Z.Warmed39 s.vm) {own C ad : String} {ty : FieldType} {index : Nat} (hown : s.vm.findClass own = some m.cls) (hC : (FieldType.array ty).toString = C) (had : "[" ++ C = ad)
    (w1 : (Jvm.Cond.classLink own index ad).before a0 Z = true) (w2 : (Jvm.Cond.arrayOver (.array ty)).before a0 Z = true) (w3 : (Jvm.Cond.arrayClass ty).before a0 Z = true) (eT : T.heap = h) (hd : decode B pc = .ok (.multianewarray index 2, 4)) (hp : pc + 4 = pc') {n : Int32}
    (hn : ¬ n < 0) {CC SS : Nat} (hN : n.toNatClampNeg ≤ SS) (hdf : fits ty (defaultValue ty) = true) (hdd : (defaultValue ty).isDefault = true) (hb1 : SS ≤ 1000) (hCC : 1 + SS ≤ CC) (hc : cells + CC ≤ R.cells) (hl : slots + SS ≤ R.slots)
    (k : ∀ (T' : State) (h' : Heap) (b : Addr), b = h.size → Stand p l e R s m args below meth c T' locs (cells + CC) (slots + SS) → T'.heap = h' → Ext h h' → own_Grid Z h' b n → own_E p.tables e below G (T'.setTop (mkF m pc' Ls (.ref b :: st)))) : own_E p.tables e below G (T.setTop (mkF m pc Ls (.int 0 :: .int n :: st))) := by
  subst hp
  obtain ⟨T', h', cA, comp, X', e', E', V', -, -, -, stp⟩ := gridM X hx hZ hown hC had w1 w2 w3 eT (g := mkF m pc Ls (.int 0 :: .int n :: st)) rfl (hb hby hd) rfl hn (by decide) rfl rfl (cap := 0) (by decide) (by decide) (by omega) hdf hdd (by omega) (by omega)
  exact own_go stp (k T' h' _ rfl (X'.mono (by omega) (by omega)) e' E' ⟨cA, _, _, V', rfl, by simp⟩)
theorem own_aaloadG (X : Stand p l e R s m args below meth c T locs cells slots) (hx : p.tables.exec = Jvm.exec) (hby : c.code = B) (hZ : Z.Warmed39 s.vm) (eT : T.heap = h) {a : Addr} {n j : Int32} (A : own_Grid Z h a n) (hj : ¬ j < 0 ∧ j < n) (hd : decode B pc = .ok (.aaload, 1)) (hp : pc + 1 = pc')
    (k : ∀ x : Addr, own_E p.tables e below G (T.setTop (mkF m pc' Ls (.ref x :: st)))) : own_E p.tables e below G (T.setTop (mkF m pc Ls (.int j :: .ref a :: st))) := by
  obtain ⟨kA, ty, xs, A, ht, hlen⟩ := A
  have hlt : j.toNatClampNeg < xs.length := by
    have h1 := hj.1; have h2 := hj.2
    simp only [Int32.lt_iff_toInt_lt, Int32.reduceToInt] at h1 h2
    rw [hlen]; simp only [Int32.toNatClampNeg]; omega
  exact own_aaloadV X hx hby hZ eT A ht hj (v := .ref xs[j.toNatClampNeg]) (by simp [List.getD_eq_getElem?_getD, hlt]) hd hp (k _)
end OwnHeap

abbrev own_ST : String := "java/lang/String"
/-- a String of these chars, each 0 to 255 -/
def own_Str (Z : State) (h : Heap) (a : Addr) (cs : List Int32) : Prop := Exa Z h a "java/lang/String" ∧ Fld Z h a "java/lang/String" "coder" "B" (.int (0 : Int32)) ∧ (∀ c ∈ cs, ¬ c < 0 ∧ ¬ (255 : Int32) < c) ∧ ∃ (t : Addr) (kb : ClassId), Fld Z h a "java/lang/String" "value" "[B" (.ref t) ∧ Arv Z h t kb .byte (Int32.ofNat cs.length) ((cs.map (fun c => c.toInt8.toInt32)).map Value.int) (.int (0 : Int32))
theorem own_Str.ext {Z : State} {h h' : Heap} {a : Addr} {cs : List Int32} (S : own_Str Z h a cs) (E : Ext h h') : own_Str Z h' a cs := by
  obtain ⟨A, C, hp, t, kb, V, K⟩ := S; exact ⟨A.ext E, C.ext E, hp, t, kb, V.ext E, K.ext E⟩
theorem own_Str.exa {Z : State} {h : Heap} {a : Addr} {cs : List Int32} (S : own_Str Z h a cs) : Exa Z h a "java/lang/String" := S.1
theorem own_narb (x : Int32) : nar .byte x.toInt8.toInt32 = x.toInt8.toInt32 := by simp [nar]
theorem own_char {x : Int32} (h0 : ¬ x < 0) (h1 : ¬ (255 : Int32) < x) : nar .char x = x ∧ x.toUInt32.toUInt16.toUInt32.toInt32 = x := by
  have t : ∀ k : Fin 256, nar .char (Int32.ofNat k.val) = Int32.ofNat k.val ∧ (Int32.ofNat k.val).toUInt32.toUInt16.toUInt32.toInt32 = Int32.ofNat k.val := by decide +kernel
  rw [Int32.lt_iff_toInt_lt] at h0 h1
  have e0 : (0 : Int32).toInt = 0 := rfl
  have e1 : (255 : Int32).toInt = 255 := rfl
  obtain ⟨k, hk⟩ : ∃ k : Nat, x.toInt = k := ⟨x.toInt.toNat, by omega⟩
  have hx : x = Int32.ofNat k := Int32.toInt_inj.mp (by rw [hk, Int32.toInt_ofNat_small (by omega)])
  rw [hx]
  exact t ⟨k, by omega⟩
theorem own_mask (x : Int32) : ¬ (x &&& (255 : Int32)) < 0 ∧ ¬ (255 : Int32) < (x &&& (255 : Int32)) := by
  have h := c_and x 255 (by decide)
  have e0 : (0 : Int32).toInt = 0 := rfl
  have e1 : (255 : Int32).toInt = 255 := rfl
  rw [Int32.lt_iff_toInt_lt, Int32.lt_iff_toInt_lt, e0, e1]; rw [e1] at h; omega
theorem own_mask_c (x : Int32) : (x &&& (255 : Int32)).toUInt32.toUInt16.toUInt32.toInt32 = x &&& (255 : Int32) := (own_char (own_mask x).1 (own_mask x).2).2
theorem own_mask_n (x : Int32) : nar .char (x &&& (255 : Int32)) = x &&& (255 : Int32) := (own_char (own_mask x).1 (own_mask x).2).1
theorem own_not0 {args : Array Value} {s : State} {t : Term} {G : Int32} (e : t.eval args s none [] s = some (.int G)) (h : (Jvm.Cond.not (Jvm.Cond.eq t (Jvm.Term.int (0 : Int32)))).before args s = true) : ¬ (G = (0 : Int32)) := by
  intro q; subst q
  have h1 := Cond.before_iff.mp h
  simp [Cond.value, e, Term.eval] at h1
section OwnWide
variable {p : Program} {l : Launch} {e : Env} {R : Room} {s : State} {m : MethodId} {args : Array Value} {below : List Frame} {meth : Method} {c : Code} {T : State} {locs : List Loc} {cells slots : Nat} {G : State → Outcome → Prop} {B : ByteArray} {pc pc' : Nat} {Ls Ls' : Array Slot} {st : List Value} {Z : State} {a0 : Array Value} {h h' h'' hb0 : Heap} {EL : List (String × Nat)} {vm0 v0 : Vm}
def own_Sn (s : State) (vm : Vm) (h : Heap) : Prop := ∃ k, s.Since vm k ∧ k ≤ h.size
theorem own_Sn.ext (S : own_Sn s vm0 h) (E : Ext h h') : own_Sn s vm0 h' := by obtain ⟨k, h1, h2⟩ := S; exact ⟨k, h1, Nat.le_trans h2 E.1⟩
def own_CH (Z : State) (EL : List (String × Nat)) (v0 : Vm) (hb0 : Heap) (vm : Vm) (h : Heap) : Prop := CHr Z EL v0 hb0 vm h
theorem own_CH.ext (A : own_CH Z EL v0 hb0 vm0 h) (E : Ext h h') : own_CH Z EL v0 hb0 vm0 h' := CHr.trans A (CHr.ext E A.1)
theorem own_Sn.wr {a : Addr} {sl : Nat} {v : Value} (S : own_Sn s vm0 h) (W : Wr h h' a sl v) : own_Sn s vm0 h' := by obtain ⟨k, h1, h2⟩ := S; exact ⟨k, h1, by rw [W.size]; exact h2⟩
theorem own_Sn.keep {ws : List Addr} (S : own_Sn s vm0 h) (K : Keep h h' ws) : own_Sn s vm0 h' := by obtain ⟨k, h1, h2⟩ := S; exact ⟨k, h1, Nat.le_trans h2 K.1⟩
theorem own_CH.wr {a : Addr} {sl : Nat} {v : Value} (A : own_CH Z EL v0 hb0 vm0 h) (W : Wr h h' a sl v) (S : Safe Z EL vm0 h a) : own_CH Z EL v0 hb0 vm0 h' := CHr.trans A (CHr.wr W S A.1)
theorem own_CH.keep {ws : List Addr} (A : own_CH Z EL v0 hb0 vm0 h) (K : Keep h h' ws) (S : ∀ x ∈ ws, Safe Z EL vm0 h x) : own_CH Z EL v0 hb0 vm0 h' := CHr.trans A (CHr.keep K S A.1)
def own_EndW (Z : State) (EL : List (String × Nat)) (s : State) (h0 : Heap) (below : List Frame) (Q : Option Value → Heap → List Loc → Prop) (C S : Nat) (s₂ : State) (o : Outcome) : Prop := s₂.status = .running ∧ Ended s₂ below o ∧ ∃ v L, o = .returned v ∧ Q v s₂.heap L ∧ CHr Z EL s.vm h0 s₂.vm s₂.heap ∧ ReturnedEndW s o s₂ L C S
/-- a body's wide contract -/
def own_MetW (l : Launch) (Z : State) (EL : List (String × Nat)) (x : MethodName) (bytes : ByteArray) (maxL : Nat) (ret : Option FieldType) (rm : Room) (as' : Array Value) (h0 : Heap) (Q : Option Value → Heap → List Loc → Prop) : Prop :=
  ∀ ws : List Jvm.Cond, MetFree l x (head1 (Jvm.Cond.code x bytes maxL ret :: ws) rm) (fun a U => a = as' ∧ Z.Warmed39 U.vm ∧ U.heap = h0 ∧ CHv Z EL U.vm h0) (fun _ _ _ _ _ => True) (fun _ U o U' => ∃ v L, o = .returned v ∧ Q v U'.heap L ∧ CHr Z EL U.vm U.heap U'.vm U'.heap ∧ ReturnedEndW U o U' L rm.cells rm.slots)
theorem own_bodyW {x : MethodName} {bytes : ByteArray} {maxL : Nat} {ret : Option FieldType} {rm : Room} {as' : Array Value} {h0 : Heap} {Q : Option Value → Heap → List Loc → Prop} (hpl : plainFor x = true)
    (body : ∀ (p : Program) (e : Env) (s : State) (m : MethodId) (below : List Frame) (meth : Method) (c : Code) (s₁ : State) (vm0 : Vm), p.tables.exec = Jvm.exec → c.code = bytes → c.maxLocals = maxL → vm0.findClass x.cls = some m.cls → meth.name = x.name → meth.locks = false → meth.sig.returnType = ret → Z.Warmed39 vm0 → Z.Warmed39 s.vm → own_Sn s vm0 h0 → own_CH Z EL s.vm h0 vm0 h0 → Stand p l e rm (s.setVm vm0) m as' below meth c s₁ [] 0 0 → s₁.heap = h0 →
      own_E p.tables e below (own_EndW Z EL s h0 below Q rm.cells rm.slots) (s₁.setTop (entryFrame m as' maxL))) : own_MetW l Z EL x bytes maxL ret rm as' h0 Q := by
  intro ws
  refine MetFree.of_bodySF hpl hisR ?_
  intro p e s m args below meth c s₁ Bd hml0 hP hK
  obtain ⟨rfl, hZ, hh, hC⟩ := hP
  obtain ⟨s₂, o, q1, q2, q3, v, L, q4, q5, q6, q7⟩ := body p e s m below meth c s₁ s.vm Bd.exec Bd.bytes hml0 (findClass_of_methodNamed Bd.named) (name_of_methodNamed Bd.named Bd.method).1 (BodyLoose.notSynchronized Bd) Bd.returns hZ hZ ⟨0, (State.WarmedH.refl s).since 0, Nat.zero_le _⟩ (CHr.refl hC) (Stand.of_body Bd) (by rw [← hh, Bd.state]; rfl)
  exact ⟨s₂, o, q1, q2, q3, v, L, q4, q5, by rw [hh]; exact q6, q7⟩
theorem own_backW {y : MethodName} {bytes : ByteArray} {maxL : Nat} {ret : Option FieldType} {rm : Room} {len W : Nat} {as' : Array Value} {Q : Option Value → Heap → List Loc → Prop} (hM : own_MetW l Z EL y bytes maxL ret rm as' h Q)
    (hZ : Z.Warmed39 vm0) (hEL : EW Z a0 EL) (wc : (Jvm.Cond.code y bytes maxL ret).before a0 Z = true) (wz : (Jvm.Cond.initialized y.cls).before a0 Z = true) (A : own_CH Z EL v0 hb0 vm0 h) (hf : rm.frames + 1 ≤ R.frames) (hl : W + (maxL + 11) + rm.locals ≤ R.locals) :
    BackS l R p e below (s.setVm vm0) args y len W (fun A a => a = as' ∧ A.U.heap = h ∧ A.cells + rm.cells ≤ R.cells ∧ A.slots + rm.slots ≤ R.slots)
      (fun A _ v B => ∃ L, Q v B.U.heap L ∧ B.locs = A.locs ++ L ∧ B.cells = A.cells + rm.cells ∧ B.slots = A.slots + rm.slots ∧ CHr Z EL vm0 h B.U.vm B.U.heap) := backOfSH (hM []) hZ wc wz hf hl hEL A.1
theorem own_retW (X : Stand p l e R (s.setVm vm0) m args below meth c T locs cells slots) (hZ : Z.Warmed39 vm0) (hEL : EW Z a0 EL) (eT : T.heap = h) (SN : own_Sn s vm0 h) (A : own_CH Z EL s.vm hb0 vm0 h) {Q : Option Value → Heap → List Loc → Prop} {C S : Nat} {v : Option Value} (hv : meth.sig.returnType = none → v = none) (hlocks : meth.locks = false)
    (hst : ∀ fs : List Frame, (∀ (f : JFrame) (acts : List Action), f.method = m → f.locked = none → f.entered = [] → (doReturn e (T.setTop f) acts v).1 = T.setFrames fs) → Steps p.tables e below (T.setTop (mkF m pc Ls st)) (T.setFrames fs))
    (hq : Q v h locs) (hc : cells ≤ C) (hs : slots ≤ S) : own_E p.tables e below (own_EndW Z EL s hb0 below Q C S) (T.setTop (mkF m pc Ls st)) := by
  obtain ⟨k, h1, h2⟩ := SN
  obtain ⟨fs, hr, hrun, hended, r1, r2, r3, r4⟩ := X.leaveW h1 (by rw [eT]; exact h2) hv hlocks
  have AT := CHv.at X hZ hEL A.1
  subst eT
  exact ⟨_, _, hst fs hr, hrun, hended, v, locs, rfl, hq, CHr.trans A AT, r1, r2, r3, r4.mono hc hs⟩
theorem own_retNW (X : Stand p l e R (s.setVm vm0) m args below meth c T locs cells slots) (hx : p.tables.exec = Jvm.exec) (hby : c.code = B) (hZ : Z.Warmed39 vm0) (hEL : EW Z a0 EL) (eT : T.heap = h) (SN : own_Sn s vm0 h) (A : own_CH Z EL s.vm hb0 vm0 h) {Q : Option Value → Heap → List Loc → Prop} {C S : Nat} {t : FieldType} {z z' : Int32} (hlocks : meth.locks = false) (hret : meth.sig.returnType = some t) (ht : t = .boolean ∨ t = .byte ∨ t = .char ∨ t = .short)
    (hd : decode B pc = .ok (.ireturn, 1)) (hz : nar t z = z') (hq : Q (some (.int z')) h locs) (hc : cells ≤ C) (hs : slots ≤ S) : own_E p.tables e below (own_EndW Z EL s hb0 below Q C S) (T.setTop (mkF m pc Ls (.int z :: st))) :=
  own_retW X hZ hEL eT SN A (fun h => by rw [hret] at h; cases h) hlocks (fun fs hl => retN X hx (t := t) hret ht (hb hby hd) (by rw [hz]; exact hl)) hq hc hs
theorem own_retIW (X : Stand p l e R (s.setVm vm0) m args below meth c T locs cells slots) (hx : p.tables.exec = Jvm.exec) (hby : c.code = B) (hZ : Z.Warmed39 vm0) (hEL : EW Z a0 EL) (eT : T.heap = h) (SN : own_Sn s vm0 h) (A : own_CH Z EL s.vm hb0 vm0 h) {Q : Option Value → Heap → List Loc → Prop} {C S : Nat} {z : Int32} (hlocks : meth.locks = false) (hret : meth.sig.returnType = some .int)
    (hd : decode B pc = .ok (.ireturn, 1)) (hq : Q (some (.int z)) h locs) (hc : cells ≤ C) (hs : slots ≤ S) : own_E p.tables e below (own_EndW Z EL s hb0 below Q C S) (T.setTop (mkF m pc Ls (.int z :: st))) :=
  own_retW X hZ hEL eT SN A (fun h => by rw [hret] at h; cases h) hlocks (fun fs hl => retOut X hx hret rfl (Or.inl ⟨rfl, Or.inl rfl, _, rfl⟩) (hb hby hd) hl) hq hc hs
theorem own_retAW (X : Stand p l e R (s.setVm vm0) m args below meth c T locs cells slots) (hx : p.tables.exec = Jvm.exec) (hby : c.code = B) (hZ : Z.Warmed39 vm0) (hEL : EW Z a0 EL) (eT : T.heap = h) (SN : own_Sn s vm0 h) (A : own_CH Z EL s.vm hb0 vm0 h) {Q : Option Value → Heap → List Loc → Prop} {C S : Nat} {t : FieldType} {v : Value} (hlocks : meth.locks = false) (hret : meth.sig.returnType = some t) (ht : t.isReference = true) (hv : v.isRef = true)
    (hd : decode B pc = .ok (.areturn, 1)) (hq : Q (some v) h locs) (hc : cells ≤ C) (hs : slots ≤ S) : own_E p.tables e below (own_EndW Z EL s hb0 below Q C S) (T.setTop (mkF m pc Ls (v :: st))) :=
  own_retW X hZ hEL eT SN A (fun h => by rw [hret] at h; cases h) hlocks (fun fs hl => retOut X hx hret (by cases t <;> first | (cases ht; done) | (rcases ref_cases hv with rfl | ⟨_, rfl⟩ <;> rfl)) (Or.inr (Or.inr (Or.inr (Or.inr ⟨rfl, ht, hv⟩)))) (hb hby hd) hl) hq hc hs
theorem own_ret0W (X : Stand p l e R (s.setVm vm0) m args below meth c T locs cells slots) (hx : p.tables.exec = Jvm.exec) (hby : c.code = B) (hZ : Z.Warmed39 vm0) (hEL : EW Z a0 EL) (eT : T.heap = h) (SN : own_Sn s vm0 h) (A : own_CH Z EL s.vm hb0 vm0 h) {Q : Option Value → Heap → List Loc → Prop} {C S : Nat} (hlocks : meth.locks = false) (hret : meth.sig.returnType = none)
    (hd : decode B pc = .ok (.return_, 1)) (hq : Q none h locs) (hc : cells ≤ C) (hs : slots ≤ S) : own_E p.tables e below (own_EndW Z EL s hb0 below Q C S) (T.setTop (mkF m pc Ls [])) :=
  own_retW X hZ hEL eT SN A (fun _ => rfl) hlocks (fun fs hl => X.returnOut hx hret (hb hby hd) hl) hq hc hs
theorem own_callSW (X : Stand p l e R (s.setVm vm0) m args below meth c T locs cells slots) (hx : p.tables.exec = Jvm.exec) (hby : c.code = B) {own : String} {index nl : Nat} {as' : Array Value} {W cc ss : Nat} {Q : Option Value → Heap → List Loc → Prop} {y : MethodName} {bytes : ByteArray} {maxL : Nat} {ret : Option FieldType} (hml : c.maxLocals = nl) (hZ : Z.Warmed39 vm0) (hown : vm0.findClass own = some m.cls) (SN : own_Sn s vm0 h) (A : own_CH Z EL v0 hb0 vm0 h)
    (w1 : (Cond.methodLink own index y).before a0 Z = true) (w2 : (Cond.static y).before a0 Z = true) (w3 : (Cond.initialized y.cls).before a0 Z = true) (w4 : (Cond.code y bytes maxL ret).before a0 Z = true) (hy : y.cls ≠ "java/lang/invoke/MethodHandle" ∧ y.cls ≠ "java/lang/invoke/VarHandle")
    (hK : BackS l R p e below (s.setVm vm0) args y 3 W (fun P a => a = as' ∧ P.U.heap = h ∧ P.cells + cc ≤ R.cells ∧ P.slots + ss ≤ R.slots) (fun P _ v B => ∃ L, Q v B.U.heap L ∧ B.locs = P.locs ++ L ∧ B.cells = P.cells + cc ∧ B.slots = P.slots + ss ∧ CHr Z EL vm0 h B.U.vm B.U.heap)) (hsz : Ls.size = nl) {argsL rest : List Value} {ps : List FieldType} {r : Option FieldType} (hpd : parseMethodDescriptor y.desc = some ⟨ps, r⟩) (hlen : argsL.length = ps.length) (hst : st = argsL.reverse ++ rest) (hW : (rest.map fun v => v.category).sum ≤ W)
    (hd : decode B pc = .ok (.invokestatic index, 3)) (hp : pc + 3 = pc') (hargs : argsL.toArray = as') (eT : T.heap = h) (hc : cells + cc ≤ R.cells) (hs : slots + ss ≤ R.slots)
    (k : ∀ (v : Option Value) (T' : State) (vm1 : Vm) (h' : Heap) (L : List Loc), Stand p l e R (s.setVm vm1) m args below meth c T' (locs ++ L) (cells + cc) (slots + ss) → T'.heap = h' → Z.Warmed39 vm1 → vm1.findClass own = some m.cls → own_Sn s vm1 h' → own_CH Z EL v0 hb0 vm1 h' → h.size ≤ h'.size → Q v h' L → own_E p.tables e below G (T'.setTop (mkF m pc' Ls (v.toList ++ rest)))) : own_E p.tables e below G (T.setTop (mkF m pc Ls st)) := by
  subst hp
  obtain ⟨v, vm₁, ⟨T', L', k', n'⟩, -, X', hS, hgr, ⟨L, hQ, q1, q2, q3, q4⟩, stp⟩ := callSS X hx hown (mvT (s := s.setVm vm0) hZ w1) (mvT (s := s.setVm vm0) hZ w2) (mvT (s := s.setVm vm0) hZ w3) (mvT (s := s.setVm vm0) hZ w4) hy hK (g := mkF m pc Ls st) rfl (by rw [hml]; exact hsz) (argsL := argsL) (rest := rest) (lenOf hpd hlen) hst (by show 2 * 0 + _ ≤ _; rw [Nat.mul_zero, Nat.zero_add]; exact hW) (hb hby hd) (fun _ _ => ⟨hargs, eT, hc, hs⟩)
  dsimp only at X' hQ q1 q2 q3 q4 stp hgr
  subst q1 q2 q3
  obtain ⟨k0, s1, s2⟩ := SN
  have hW : Z.Warmed39 T'.vm := State.Warmed39.trans (t := s.setVm vm0) hZ hS.1
  have hSn : own_Sn s T'.vm T'.heap := ⟨_, s1.trans hS (Nat.le_trans s2 (by rw [← eT]; exact hgr)), Nat.le_refl _⟩
  have hf : T'.vm.findClass own = some m.cls := by rw [hS.1.alike.findClass]; exact hown
  exact own_tr stp (k v T' T'.vm _ L X' rfl hW hf hSn (CHr.trans A q4) (by rw [← eT]; exact hgr) hQ)
theorem own_specW (X : Stand p l e R (s.setVm vm0) m args below meth c T locs cells slots) (hx : p.tables.exec = Jvm.exec) (hby : c.code = B) {own : String} {index nl : Nat} {as' : Array Value} {W cc ss : Nat} {Q : Option Value → Heap → List Loc → Prop} {y : MethodName} {bytes : ByteArray} {maxL : Nat} (hml : c.maxLocals = nl) (hZ : Z.Warmed39 vm0) (hown : vm0.findClass own = some m.cls) (SN : own_Sn s vm0 h) (A : own_CH Z EL v0 hb0 vm0 h) (hy1 : y.name = "<init>")
    (w1 : (Cond.methodLink own index y).before a0 Z = true) (w2 : (Cond.instanceMethod y).before a0 Z = true) (w4 : (Cond.code y bytes maxL none).before a0 Z = true) (hy : y.cls ≠ "java/lang/invoke/MethodHandle" ∧ y.cls ≠ "java/lang/invoke/VarHandle")
    (hK : BackS l R p e below (s.setVm vm0) args y 3 W (fun P a => a = as' ∧ P.U.heap = h ∧ P.cells + cc ≤ R.cells ∧ P.slots + ss ≤ R.slots) (fun P _ v B => ∃ L, Q v B.U.heap L ∧ B.locs = P.locs ++ L ∧ B.cells = P.cells + cc ∧ B.slots = P.slots + ss ∧ CHr Z EL vm0 h B.U.vm B.U.heap)) (hsz : Ls.size = nl) {a : Addr} {argsL rest : List Value} {ps : List FieldType} {r : Option FieldType} (hpd : parseMethodDescriptor y.desc = some ⟨ps, r⟩) (hlen : argsL.length = ps.length) (hst : st = argsL.reverse ++ .ref a :: rest) (hW : (rest.map fun v => v.category).sum ≤ W)
    (hd : decode B pc = .ok (.invokespecial index, 3)) (hp : pc + 3 = pc') (hargs : (.ref a :: argsL).toArray = as') (eT : T.heap = h) (hc : cells + cc ≤ R.cells) (hs : slots + ss ≤ R.slots)
    (k : ∀ (v : Option Value) (T' : State) (vm1 : Vm) (h' : Heap) (L : List Loc), Stand p l e R (s.setVm vm1) m args below meth c T' (locs ++ L) (cells + cc) (slots + ss) → T'.heap = h' → Z.Warmed39 vm1 → vm1.findClass own = some m.cls → own_Sn s vm1 h' → own_CH Z EL v0 hb0 vm1 h' → h.size ≤ h'.size → Q v h' L → own_E p.tables e below G (T'.setTop (mkF m pc' Ls (v.toList ++ rest)))) : own_E p.tables e below G (T.setTop (mkF m pc Ls st)) := by
  subst hp
  obtain ⟨v, vm₁, ⟨T', L', k', n'⟩, -, X', hS, hgr, ⟨L, hQ, q1, q2, q3, q4⟩, stp⟩ := X.specialBackS hx hy1 hown (mvT (s := s.setVm vm0) hZ w1) (mvT (s := s.setVm vm0) hZ w2) (mvT (s := s.setVm vm0) hZ w4) hy hK (g := mkF m pc Ls st) rfl (by rw [hml]; exact hsz) (Steps.refl _) (a := a) (argsL := argsL) (rest := rest) (lenOf hpd hlen) hst (by show 2 * 0 + _ ≤ _; rw [Nat.mul_zero, Nat.zero_add]; exact hW) (hb hby hd) (fun _ _ => ⟨hargs, eT, hc, hs⟩)
  dsimp only at X' hQ q1 q2 q3 q4 stp hgr
  subst q1 q2 q3
  obtain ⟨k0, s1, s2⟩ := SN
  have hW : Z.Warmed39 T'.vm := State.Warmed39.trans (t := s.setVm vm0) hZ hS.1
  have hSn : own_Sn s T'.vm T'.heap := ⟨_, s1.trans hS (Nat.le_trans s2 (by rw [← eT]; exact hgr)), Nat.le_refl _⟩
  have hf : T'.vm.findClass own = some m.cls := by rw [hS.1.alike.findClass]; exact hown
  exact own_tr stp (k v T' T'.vm _ L X' rfl hW hf hSn (CHr.trans A q4) (by rw [← eT]; exact hgr) hQ)
theorem own_virtW (X : Stand p l e R (s.setVm vm0) m args below meth c T locs cells slots) (hx : p.tables.exec = Jvm.exec) (hby : c.code = B) {own : String} {index nl : Nat} {as' : Array Value} {W cc ss : Nat} {Q : Option Value → Heap → List Loc → Prop} {C : String} {y z : MethodName} (hml : c.maxLocals = nl) (hZ : Z.Warmed39 vm0) (hown : vm0.findClass own = some m.cls) (SN : own_Sn s vm0 h) (A : own_CH Z EL v0 hb0 vm0 h)
    (w1 : (Cond.methodLink own index y).before a0 Z = true) (w2 : (Cond.declares y).before a0 Z = true) (hnf : NotFace (s.setVm vm0) y) (w3 : (Cond.selects C y z).before a0 Z = true) (w4 : (Cond.instanceMethod z).before a0 Z = true) (hy : y.cls ≠ "java/lang/invoke/MethodHandle" ∧ y.cls ≠ "java/lang/invoke/VarHandle")
    (hK : BackS l R p e below (s.setVm vm0) args z 3 W (fun P a => a = as' ∧ P.U.heap = h ∧ P.cells + cc ≤ R.cells ∧ P.slots + ss ≤ R.slots) (fun P _ v B => ∃ L, Q v B.U.heap L ∧ B.locs = P.locs ++ L ∧ B.cells = P.cells + cc ∧ B.slots = P.slots + ss ∧ CHr Z EL vm0 h B.U.vm B.U.heap)) (hsz : Ls.size = nl) {a : Addr} (hE : Exa Z h a C) {argsL rest : List Value} {ps : List FieldType} {r : Option FieldType} (hpd : parseMethodDescriptor y.desc = some ⟨ps, r⟩) (hlen : argsL.length = ps.length) (hst : st = argsL.reverse ++ .ref a :: rest) (hW : (rest.map fun v => v.category).sum ≤ W)
    (hd : decode B pc = .ok (.invokevirtual index, 3)) (hp : pc + 3 = pc') (hargs : (.ref a :: argsL).toArray = as') (eT : T.heap = h) (hc : cells + cc ≤ R.cells) (hs : slots + ss ≤ R.slots)
    (k : ∀ (v : Option Value) (T' : State) (vm1 : Vm) (h' : Heap) (L : List Loc), Stand p l e R (s.setVm vm1) m args below meth c T' (locs ++ L) (cells + cc) (slots + ss) → T'.heap = h' → Z.Warmed39 vm1 → vm1.findClass own = some m.cls → own_Sn s vm1 h' → own_CH Z EL v0 hb0 vm1 h' → h.size ≤ h'.size → Q v h' L → own_E p.tables e below G (T'.setTop (mkF m pc' Ls (v.toList ++ rest)))) : own_E p.tables e below G (T.setTop (mkF m pc Ls st)) := by
  subst hp
  obtain ⟨cq, kq, qa, qb, qc⟩ := isOf (s := s.setVm vm0) hZ eT hE
  obtain ⟨v, vm₁, ⟨T', L', k', n'⟩, -, X', hS, hgr, ⟨L, hQ, q1, q2, q3, q4⟩, stp⟩ := X.virtualBackS hx hown (mvT (s := s.setVm vm0) hZ w1) (mvT (s := s.setVm vm0) hZ w2) hnf (mvT (s := s.setVm vm0) hZ w3) (mvT (s := s.setVm vm0) hZ w4) hy hK qa qc (g := mkF m pc Ls st) rfl (by rw [hml]; exact hsz) (Steps.refl _) (argsL := argsL) (rest := rest) (lenOf hpd hlen) hst (by show 2 * 0 + _ ≤ _; rw [Nat.mul_zero, Nat.zero_add]; exact hW) (hb hby hd) (fun _ _ => ⟨hargs, eT, hc, hs⟩)
  dsimp only at X' hQ q1 q2 q3 q4 stp hgr
  subst q1 q2 q3
  obtain ⟨k0, s1, s2⟩ := SN
  have hW : Z.Warmed39 T'.vm := State.Warmed39.trans (t := s.setVm vm0) hZ hS.1
  have hSn : own_Sn s T'.vm T'.heap := ⟨_, s1.trans hS (Nat.le_trans s2 (by rw [← eT]; exact hgr)), Nat.le_refl _⟩
  have hf : T'.vm.findClass own = some m.cls := by rw [hS.1.alike.findClass]; exact hown
  exact own_tr stp (k v T' T'.vm _ L X' rfl hW hf hSn (CHr.trans A q4) (by rw [← eT]; exact hgr) hQ)
theorem own_callMW (X : Stand p l e R (s.setVm vm0) m args below meth c T locs cells slots) (hx : p.tables.exec = Jvm.exec) (hby : c.code = B) {own : String} {index nl : Nat} {as' : Array Value} {cc ss maxL : Nat} {bytes : ByteArray} {ret : Option FieldType} {rm : Room} {Q : Option Value → Heap → List Loc → Prop} {y : MethodName} (hml : c.maxLocals = nl) (hZ : Z.Warmed39 vm0) (hown : vm0.findClass own = some m.cls) (SN : own_Sn s vm0 h) (A : own_CH Z EL v0 hb0 vm0 h) (w1 : (Jvm.Cond.methodLink own index y).before a0 Z = true) (w2 : (Jvm.Cond.static y).before a0 Z = true) (w3 : (Jvm.Cond.initialized y.cls).before a0 Z = true) (w4 : (Jvm.Cond.code y bytes maxL ret).before a0 Z = true) (hy : y.cls ≠ "java/lang/invoke/MethodHandle" ∧ y.cls ≠ "java/lang/invoke/VarHandle")
    (hEL : EW Z a0 EL) (hM : own_MetW l Z EL y bytes maxL ret rm as' h Q) (W : Nat) (hcc : rm.cells = cc) (hss : rm.slots = ss) (hf : rm.frames + 1 ≤ R.frames) (hl : W + (maxL + 11) + rm.locals ≤ R.locals) (hsz : Ls.size = nl) {argsL rest : List Value} {ps : List FieldType} {r : Option FieldType} (hpd : parseMethodDescriptor y.desc = some ⟨ps, r⟩) (hlen : argsL.length = ps.length) (hst : st = argsL.reverse ++ rest) (hW : (rest.map fun v => v.category).sum ≤ W) (hd : decode B pc = .ok (.invokestatic index, 3)) (hp : pc + 3 = pc') (hargs : argsL.toArray = as') (eT : T.heap = h) (hc : cells + cc ≤ R.cells) (hs : slots + ss ≤ R.slots)
    (k : ∀ (v : Option Value) (T' : State) (vm1 : Vm) (h' : Heap) (L : List Loc), Stand p l e R (s.setVm vm1) m args below meth c T' (locs ++ L) (cells + cc) (slots + ss) → T'.heap = h' → Z.Warmed39 vm1 → vm1.findClass own = some m.cls → own_Sn s vm1 h' → own_CH Z EL v0 hb0 vm1 h' → h.size ≤ h'.size → Q v h' L → own_E p.tables e below G (T'.setTop (mkF m pc' Ls (v.toList ++ rest)))) : own_E p.tables e below G (T.setTop (mkF m pc Ls st)) := by
  subst hcc hss
  exact own_callSW X hx hby hml hZ hown SN A w1 w2 w3 w4 hy (own_backW hM hZ hEL w4 w3 A hf hl) hsz hpd hlen hst hW hd hp hargs eT hc hs k
theorem own_specMW (X : Stand p l e R (s.setVm vm0) m args below meth c T locs cells slots) (hx : p.tables.exec = Jvm.exec) (hby : c.code = B) {own : String} {index nl : Nat} {as' : Array Value} {cc ss maxL : Nat} {bytes : ByteArray} {rm : Room} {Q : Option Value → Heap → List Loc → Prop} {y : MethodName} (hml : c.maxLocals = nl) (hZ : Z.Warmed39 vm0) (hown : vm0.findClass own = some m.cls) (SN : own_Sn s vm0 h) (A : own_CH Z EL v0 hb0 vm0 h) (hy1 : y.name = "<init>") (w1 : (Jvm.Cond.methodLink own index y).before a0 Z = true) (w2 : (Jvm.Cond.instanceMethod y).before a0 Z = true) (w3 : (Jvm.Cond.initialized y.cls).before a0 Z = true) (w4 : (Jvm.Cond.code y bytes maxL none).before a0 Z = true) (hy : y.cls ≠ "java/lang/invoke/MethodHandle" ∧ y.cls ≠ "java/lang/invoke/VarHandle")
    (hEL : EW Z a0 EL) (hM : own_MetW l Z EL y bytes maxL none rm as' h Q) (W : Nat) (hcc : rm.cells = cc) (hss : rm.slots = ss) (hf : rm.frames + 1 ≤ R.frames) (hl : W + (maxL + 11) + rm.locals ≤ R.locals) (hsz : Ls.size = nl) {a : Addr} {argsL rest : List Value} {ps : List FieldType} {r : Option FieldType} (hpd : parseMethodDescriptor y.desc = some ⟨ps, r⟩) (hlen : argsL.length = ps.length) (hst : st = argsL.reverse ++ .ref a :: rest) (hW : (rest.map fun v => v.category).sum ≤ W) (hd : decode B pc = .ok (.invokespecial index, 3)) (hp : pc + 3 = pc') (hargs : (.ref a :: argsL).toArray = as') (eT : T.heap = h) (hc : cells + cc ≤ R.cells) (hs : slots + ss ≤ R.slots)
    (k : ∀ (v : Option Value) (T' : State) (vm1 : Vm) (h' : Heap) (L : List Loc), Stand p l e R (s.setVm vm1) m args below meth c T' (locs ++ L) (cells + cc) (slots + ss) → T'.heap = h' → Z.Warmed39 vm1 → vm1.findClass own = some m.cls → own_Sn s vm1 h' → own_CH Z EL v0 hb0 vm1 h' → h.size ≤ h'.size → Q v h' L → own_E p.tables e below G (T'.setTop (mkF m pc' Ls (v.toList ++ rest)))) : own_E p.tables e below G (T.setTop (mkF m pc Ls st)) := by
  subst hcc hss
  exact own_specW X hx hby hml hZ hown SN A hy1 w1 w2 w4 hy (own_backW hM hZ hEL w4 w3 A hf hl) hsz hpd hlen hst hW hd hp hargs eT hc hs k
theorem own_virtMW (X : Stand p l e R (s.setVm vm0) m args below meth c T locs cells slots) (hx : p.tables.exec = Jvm.exec) (hby : c.code = B) {own : String} {index nl : Nat} {as' : Array Value} {cc ss maxL : Nat} {bytes : ByteArray} {ret : Option FieldType} {rm : Room} {Q : Option Value → Heap → List Loc → Prop} {C : String} {y z : MethodName} (hml : c.maxLocals = nl) (hZ : Z.Warmed39 vm0) (hown : vm0.findClass own = some m.cls) (SN : own_Sn s vm0 h) (A : own_CH Z EL v0 hb0 vm0 h) (w1 : (Jvm.Cond.methodLink own index y).before a0 Z = true) (w2 : (Jvm.Cond.declares y).before a0 Z = true) (hnf : NotFace (s.setVm vm0) y) (w5 : (Jvm.Cond.selects C y z).before a0 Z = true) (w6 : (Jvm.Cond.instanceMethod z).before a0 Z = true) (w3 : (Jvm.Cond.initialized z.cls).before a0 Z = true) (w4 : (Jvm.Cond.code z bytes maxL ret).before a0 Z = true) (hy : y.cls ≠ "java/lang/invoke/MethodHandle" ∧ y.cls ≠ "java/lang/invoke/VarHandle")
    (hEL : EW Z a0 EL) (hM : own_MetW l Z EL z bytes maxL ret rm as' h Q) (W : Nat) (hcc : rm.cells = cc) (hss : rm.slots = ss) (hf : rm.frames + 1 ≤ R.frames) (hl : W + (maxL + 11) + rm.locals ≤ R.locals) (hsz : Ls.size = nl) {a : Addr} (hE : Exa Z h a C) {argsL rest : List Value} {ps : List FieldType} {r : Option FieldType} (hpd : parseMethodDescriptor y.desc = some ⟨ps, r⟩) (hlen : argsL.length = ps.length) (hst : st = argsL.reverse ++ .ref a :: rest) (hW : (rest.map fun v => v.category).sum ≤ W) (hd : decode B pc = .ok (.invokevirtual index, 3)) (hp : pc + 3 = pc') (hargs : (.ref a :: argsL).toArray = as') (eT : T.heap = h) (hc : cells + cc ≤ R.cells) (hs : slots + ss ≤ R.slots)
    (k : ∀ (v : Option Value) (T' : State) (vm1 : Vm) (h' : Heap) (L : List Loc), Stand p l e R (s.setVm vm1) m args below meth c T' (locs ++ L) (cells + cc) (slots + ss) → T'.heap = h' → Z.Warmed39 vm1 → vm1.findClass own = some m.cls → own_Sn s vm1 h' → own_CH Z EL v0 hb0 vm1 h' → h.size ≤ h'.size → Q v h' L → own_E p.tables e below G (T'.setTop (mkF m pc' Ls (v.toList ++ rest)))) : own_E p.tables e below G (T.setTop (mkF m pc Ls st)) := by
  subst hcc hss
  exact own_virtW X hx hby hml hZ hown SN A w1 w2 hnf w5 w6 hy (own_backW hM hZ hEL w4 w3 A hf hl) hsz hE hpd hlen hst hW hd hp hargs eT hc hs k
theorem own_ldcO (X : Stand p l e R (s.setVm vm0) m args below meth c T locs cells slots) (hx : p.tables.exec = Jvm.exec) (hby : c.code = B) {own text : String} {index : Nat} (hZ : Z.Warmed39 vm0) (hown : vm0.findClass own = some m.cls) (SN : own_Sn s vm0 h) (A : own_CH Z EL v0 hb0 vm0 h) (hEL : EW Z a0 EL) (wS : ∀ a ∈ Bundle.stringAtoms, a.before a0 Z = true) (w : (Cond.stringLink own index text).before a0 Z = true) (eT : T.heap = h) (hd : decode B pc = .ok (.ldc index, 2)) (hp : pc + 2 = pc') {n : Nat} (hn : 4 * text.toList.length ≤ n) (hbig : n ≤ 536870912) (hc : cells + 2 ≤ R.cells) (hl : slots + (n + 4) ≤ R.slots)
    (k : ∀ (T' : State) (vm1 : Vm) (h' : Heap) (a : Addr), Stand p l e R (s.setVm vm1) m args below meth c T' locs (cells + 2) (slots + (n + 4)) → T'.heap = h' → Z.Warmed39 vm1 → vm1.findClass own = some m.cls → own_Sn s vm1 h' → own_CH Z EL v0 hb0 vm1 h' → Ext h h' → own_E p.tables e below G (T'.setTop (mkF m pc' Ls (.ref a :: st)))) : own_E p.tables e below G (T.setTop (mkF m pc Ls st)) := by
  subst hp
  obtain ⟨k0, s1, s2⟩ := SN
  obtain ⟨a, T', h', k1, X', e', E', s3, s4, hW, hf, hC, -, stp⟩ := ldcOH X hx hZ hown w wS eT s1 s2 hEL A.1 (g := mkF m pc Ls st) rfl (hb hby hd) hn hbig hc hl
  exact own_go stp (k T' T'.vm h' a X' e' hW hf ⟨k1, s3, s4⟩ (CHr.trans A hC) E')
theorem own_ldcC (X : Stand p l e R (s.setVm vm0) m args below meth c T locs cells slots) (hx : p.tables.exec = Jvm.exec) (hby : c.code = B) {own text : String} {index : Nat} (hZ : Z.Warmed39 vm0) (hown : vm0.findClass own = some m.cls) (SN : own_Sn s vm0 h) (A : own_CH Z EL v0 hb0 vm0 h) (hEL : EW Z a0 EL) (wS : ∀ a ∈ Bundle.stringAtoms, a.before a0 Z = true) (w : (Cond.stringLink own index text).before a0 Z = true) (eT : T.heap = h) (hd : decode B pc = .ok (.ldc index, 2)) (hp : pc + 2 = pc') {n : Nat} (hn : 4 * text.toList.length ≤ n) (hbig : n ≤ 536870912) (hc : cells + 2 ≤ R.cells) (hl : slots + (n + 4) ≤ R.slots) (hmem : (own, index) ∈ EL) (cs : List Int32) (ht : (∀ c ∈ text.toList, c.toNat < 256) ∧ text.toList.map (fun c => Value.int (Jvm.Lit.byteI c.toNat.toUInt16)) = (cs.map (fun c => c.toInt8.toInt32)).map Value.int) (hcs : ∀ c ∈ cs, ¬ c < 0 ∧ ¬ (255 : Int32) < c) (hz : ¬ (Int32.ofNat cs.length) < 0) (hlc : (Int32.ofNat cs.length).toNatClampNeg = cs.length)
    (k : ∀ (T' : State) (vm1 : Vm) (h' : Heap) (a : Addr), Stand p l e R (s.setVm vm1) m args below meth c T' locs (cells + 2) (slots + (n + 4)) → T'.heap = h' → Z.Warmed39 vm1 → vm1.findClass own = some m.cls → own_Sn s vm1 h' → own_CH Z EL v0 hb0 vm1 h' → Ext h h' → own_Str Z h' a cs → own_E p.tables e below G (T'.setTop (mkF m pc' Ls (.ref a :: st)))) : own_E p.tables e below G (T.setTop (mkF m pc Ls st)) := by
  subst hp
  obtain ⟨k0, s1, s2⟩ := SN
  obtain ⟨a, T', h', k1, b, kb, X', e', E', s3, s4, hW, hf, t1, t2, t3, t4, -, -, hC, -, -, stp⟩ := ldcCH X hx hZ hown w wS eT s1 s2 hEL hmem A.1 ht hz (by rw [hlc]; simp) (g := mkF m pc Ls st) rfl (hb hby hd) hn hbig hc hl
  exact own_go stp (k T' T'.vm h' a X' e' hW hf ⟨k1, s3, s4⟩ (CHr.trans A hC) E' ⟨t1, t2, hcs, b, kb, t3, t4⟩)
theorem own_safe_null {x : Addr} (hal : Z.vm.Alike vm0) (E : Exa Z h x "java/lang/String") (F : Fld Z h x "java/lang/String" "value" "[B" .null) (wi : (Jvm.Cond.instantiable "java/lang/String" 4).before a0 Z = true) : Safe Z EL vm0 h x := fun Bq => by
  obtain ⟨pp, -, u, a, -, q, -, Fq, hx⟩ := Bq
  obtain ⟨cS, ⟨⟨s1, s2, s3, ⟨cv, kv, iv, s4, s4'⟩, s5, s6, s7, s8, s9, s10, s11, s12, -⟩, hfS, hcS⟩, -⟩ := Fq
  obtain ⟨cell, cf, k, i, f, g1, g2, g3, g4, g5, g6, g7⟩ := F
  rcases hx with rfl | rfl
  · cases (show h[q.sa]? = some q.sC from s1).symm.trans g1
    obtain ⟨k', e1⟩ := ff_back (U := Wst Z vm0 h) hal s4
    cases e1.symm.trans g2
    rw [s8] at g7; cases g7
  · obtain ⟨c2, k2, e1, e2, e3, e4, -⟩ := E
    cases (show h[q.sd]? = some q.SA from s10).symm.trans e1
    obtain ⟨-, kB, hkB, compB, hkindB⟩ := s11
    obtain ⟨c3, k3, i1, i2, i3, -⟩ := Cond.instantiable_spec wi
    cases e2.symm.trans i1
    obtain ⟨k4, j1, j2⟩ := hal.2.2 _ _ i2
    cases (show vm0.classes[q.SA.cls]? = some kB from hkB).symm.trans j1
    rw [j2, show k3.kind = .ordinary from i3] at hkindB; cases hkindB
end OwnWide

theorem own_hws {Z : State} {a0 : Array Value} (hw : ∀ d ∈ tables_1, d.before a0 Z = true) : ∀ d ∈ StrChars.Road.words, d.before a0 Z = true := fun d hd => hw d ((by decide +kernel : ∀ d ∈ StrChars.Road.words, d ∈ tables_1) d hd)
theorem own_bool {z : Int32} (h : z = 0 ∨ z = 1) : nar .boolean z = z := by rcases h with rfl | rfl <;> rfl
theorem own_max1 {p : Int32} (h : (1 : Int32) < p) : ¬ p < (1 : Int32) := by rw [Int32.lt_iff_toInt_lt] at *; omega
theorem ow_0 {Z : State} {a0 : Array Value} (hw : ∀ d ∈ tables_1, d.before a0 Z = true) : (Jvm.Cond.fieldLink "com/example/kindred/kindred/matching/PreparationKeepsEveryCharacterPinLaw" (22 : Nat) "com/example/kindred/kindred/matching/Preparation$LetterCase" "AS_IS" "Lcom/example/kindred/kindred/matching/Preparation$LetterCase;").before a0 Z = true := hw _ (List.mem_of_getElem? (i := 0) rfl)
theorem ow_1 {Z : State} {a0 : Array Value} (hw : ∀ d ∈ tables_1, d.before a0 Z = true) : (Jvm.Cond.initialized "com/example/kindred/kindred/matching/Preparation$LetterCase").before a0 Z = true := hw _ (List.mem_of_getElem? (i := 1) rfl)
theorem ow_2 {Z : State} {a0 : Array Value} (hw : ∀ d ∈ tables_1, d.before a0 Z = true) : (Jvm.Cond.laysStatic "com/example/kindred/kindred/matching/Preparation$LetterCase" "AS_IS" "Lcom/example/kindred/kindred/matching/Preparation$LetterCase;").before a0 Z = true := hw _ (List.mem_of_getElem? (i := 2) rfl)
theorem ow_3 {Z : State} {a0 : Array Value} (hw : ∀ d ∈ tables_1, d.before a0 Z = true) : (Jvm.Cond.classLink "com/example/kindred/kindred/matching/PreparationKeepsEveryCharacterPinLaw" (43 : Nat) "com/example/kindred/kindred/matching/Preparation").before a0 Z = true := hw _ (List.mem_of_getElem? (i := 3) rfl)
theorem ow_4 {Z : State} {a0 : Array Value} (hw : ∀ d ∈ tables_1, d.before a0 Z = true) : (Jvm.Cond.instantiable "com/example/kindred/kindred/matching/Preparation" (4 : Nat)).before a0 Z = true := hw _ (List.mem_of_getElem? (i := 4) rfl)
theorem ow_5 {Z : State} {a0 : Array Value} (hw : ∀ d ∈ tables_1, d.before a0 Z = true) : (Jvm.Cond.initialized "com/example/kindred/kindred/matching/Preparation").before a0 Z = true := hw _ (List.mem_of_getElem? (i := 5) rfl)
theorem ow_6 {Z : State} {a0 : Array Value} (hw : ∀ d ∈ tables_1, d.before a0 Z = true) : (Jvm.Cond.methodLink "com/example/kindred/kindred/matching/PreparationKeepsEveryCharacterPinLaw" (45 : Nat) ({ cls := "com/example/kindred/kindred/matching/Preparation", name := "<init>", desc := "(ZLjava/lang/String;Lcom/example/kindred/kindred/matching/Preparation$LetterCase;Lcom/example/kindred/kindred/matching/Preparation$Take;)V" } : Jvm.MethodName)).before a0 Z = true := hw _ (List.mem_of_getElem? (i := 6) rfl)
theorem ow_7 {Z : State} {a0 : Array Value} (hw : ∀ d ∈ tables_1, d.before a0 Z = true) : (Jvm.Cond.instanceMethod ({ cls := "com/example/kindred/kindred/matching/Preparation", name := "<init>", desc := "(ZLjava/lang/String;Lcom/example/kindred/kindred/matching/Preparation$LetterCase;Lcom/example/kindred/kindred/matching/Preparation$Take;)V" } : Jvm.MethodName)).before a0 Z = true := hw _ (List.mem_of_getElem? (i := 7) rfl)
theorem ow_8 {Z : State} {a0 : Array Value} (hw : ∀ d ∈ tables_1, d.before a0 Z = true) : (Jvm.Cond.code ({ cls := "com/example/kindred/kindred/matching/Preparation", name := "<init>", desc := "(ZLjava/lang/String;Lcom/example/kindred/kindred/matching/Preparation$LetterCase;Lcom/example/kindred/kindred/matching/Preparation$Take;)V" } : Jvm.MethodName) prog_19_method_1_code (5 : Nat) (Option.none : Option Jvm.ClassFile.FieldType)).before a0 Z = true := hw _ (List.mem_of_getElem? (i := 8) rfl)
theorem ow_9 {Z : State} {a0 : Array Value} (hw : ∀ d ∈ tables_1, d.before a0 Z = true) : (Jvm.Cond.methodLink "com/example/kindred/kindred/matching/Preparation" (1 : Nat) ({ cls := "java/lang/Record", name := "<init>", desc := "()V" } : Jvm.MethodName)).before a0 Z = true := hw _ (List.mem_of_getElem? (i := 9) rfl)
theorem ow_10 {Z : State} {a0 : Array Value} (hw : ∀ d ∈ tables_1, d.before a0 Z = true) : (Jvm.Cond.instanceMethod ({ cls := "java/lang/Record", name := "<init>", desc := "()V" } : Jvm.MethodName)).before a0 Z = true := hw _ (List.mem_of_getElem? (i := 10) rfl)
theorem ow_12 {Z : State} {a0 : Array Value} (hw : ∀ d ∈ tables_1, d.before a0 Z = true) : (Jvm.Cond.initialized "java/lang/Record").before a0 Z = true := hw _ (List.mem_of_getElem? (i := 12) rfl)
theorem ow_13 {Z : State} {a0 : Array Value} (hw : ∀ d ∈ tables_1, d.before a0 Z = true) : (Jvm.Cond.code ({ cls := "java/lang/Record", name := "<init>", desc := "()V" } : Jvm.MethodName) jdk_30_method_1_code (1 : Nat) (Option.none : Option Jvm.ClassFile.FieldType)).before a0 Z = true := hw _ (List.mem_of_getElem? (i := 13) rfl)
theorem ow_14 {Z : State} {a0 : Array Value} (hw : ∀ d ∈ tables_1, d.before a0 Z = true) : (Jvm.Cond.methodLink "java/lang/Record" (1 : Nat) ({ cls := "java/lang/Object", name := "<init>", desc := "()V" } : Jvm.MethodName)).before a0 Z = true := hw _ (List.mem_of_getElem? (i := 14) rfl)
theorem ow_15 {Z : State} {a0 : Array Value} (hw : ∀ d ∈ tables_1, d.before a0 Z = true) : (Jvm.Cond.instanceMethod ({ cls := "java/lang/Object", name := "<init>", desc := "()V" } : Jvm.MethodName)).before a0 Z = true := hw _ (List.mem_of_getElem? (i := 15) rfl)
theorem ow_16 {Z : State} {a0 : Array Value} (hw : ∀ d ∈ tables_1, d.before a0 Z = true) : (Jvm.Cond.code ({ cls := "java/lang/Object", name := "<init>", desc := "()V" } : Jvm.MethodName) object_method_1_code (1 : Nat) (Option.none : Option Jvm.ClassFile.FieldType)).before a0 Z = true := hw _ (List.mem_of_getElem? (i := 16) rfl)
theorem ow_17 {Z : State} {a0 : Array Value} (hw : ∀ d ∈ tables_1, d.before a0 Z = true) : (Jvm.Cond.fieldLink "com/example/kindred/kindred/matching/Preparation" (7 : Nat) "com/example/kindred/kindred/matching/Preparation" "removeSpaces" "Z").before a0 Z = true := hw _ (List.mem_of_getElem? (i := 17) rfl)
theorem ow_18 {Z : State} {a0 : Array Value} (hw : ∀ d ∈ tables_1, d.before a0 Z = true) : (Jvm.Cond.laysFinal "com/example/kindred/kindred/matching/Preparation" "com/example/kindred/kindred/matching/Preparation" "removeSpaces" "Z").before a0 Z = true := hw _ (List.mem_of_getElem? (i := 18) rfl)
theorem ow_19 {Z : State} {a0 : Array Value} (hw : ∀ d ∈ tables_1, d.before a0 Z = true) : (Jvm.Cond.fieldLink "com/example/kindred/kindred/matching/Preparation" (13 : Nat) "com/example/kindred/kindred/matching/Preparation" "keep" "Ljava/lang/String;").before a0 Z = true := hw _ (List.mem_of_getElem? (i := 19) rfl)
theorem ow_20 {Z : State} {a0 : Array Value} (hw : ∀ d ∈ tables_1, d.before a0 Z = true) : (Jvm.Cond.laysFinal "com/example/kindred/kindred/matching/Preparation" "com/example/kindred/kindred/matching/Preparation" "keep" "Ljava/lang/String;").before a0 Z = true := hw _ (List.mem_of_getElem? (i := 20) rfl)
theorem ow_21 {Z : State} {a0 : Array Value} (hw : ∀ d ∈ tables_1, d.before a0 Z = true) : (Jvm.Cond.fieldLink "com/example/kindred/kindred/matching/Preparation" (17 : Nat) "com/example/kindred/kindred/matching/Preparation" "letterCase" "Lcom/example/kindred/kindred/matching/Preparation$LetterCase;").before a0 Z = true := hw _ (List.mem_of_getElem? (i := 21) rfl)
theorem ow_22 {Z : State} {a0 : Array Value} (hw : ∀ d ∈ tables_1, d.before a0 Z = true) : (Jvm.Cond.laysFinal "com/example/kindred/kindred/matching/Preparation" "com/example/kindred/kindred/matching/Preparation" "letterCase" "Lcom/example/kindred/kindred/matching/Preparation$LetterCase;").before a0 Z = true := hw _ (List.mem_of_getElem? (i := 22) rfl)
theorem ow_23 {Z : State} {a0 : Array Value} (hw : ∀ d ∈ tables_1, d.before a0 Z = true) : (Jvm.Cond.fieldLink "com/example/kindred/kindred/matching/Preparation" (21 : Nat) "com/example/kindred/kindred/matching/Preparation" "take" "Lcom/example/kindred/kindred/matching/Preparation$Take;").before a0 Z = true := hw _ (List.mem_of_getElem? (i := 23) rfl)
theorem ow_24 {Z : State} {a0 : Array Value} (hw : ∀ d ∈ tables_1, d.before a0 Z = true) : (Jvm.Cond.laysFinal "com/example/kindred/kindred/matching/Preparation" "com/example/kindred/kindred/matching/Preparation" "take" "Lcom/example/kindred/kindred/matching/Preparation$Take;").before a0 Z = true := hw _ (List.mem_of_getElem? (i := 24) rfl)
theorem ow_25 {Z : State} {a0 : Array Value} (hw : ∀ d ∈ tables_1, d.before a0 Z = true) : (Jvm.Cond.methodLink "com/example/kindred/kindred/matching/PreparationKeepsEveryCharacterPinLaw" (48 : Nat) ({ cls := "com/example/kindred/kindred/matching/Preparation", name := "keepsEveryCharacter", desc := "()Z" } : Jvm.MethodName)).before a0 Z = true := hw _ (List.mem_of_getElem? (i := 25) rfl)
theorem ow_26 {Z : State} {a0 : Array Value} (hw : ∀ d ∈ tables_1, d.before a0 Z = true) : (Jvm.Cond.declares ({ cls := "com/example/kindred/kindred/matching/Preparation", name := "keepsEveryCharacter", desc := "()Z" } : Jvm.MethodName)).before a0 Z = true := hw _ (List.mem_of_getElem? (i := 26) rfl)
theorem ow_27 {Z : State} {a0 : Array Value} (hw : ∀ d ∈ tables_1, d.before a0 Z = true) : (Jvm.Cond.instanceMethod ({ cls := "com/example/kindred/kindred/matching/Preparation", name := "keepsEveryCharacter", desc := "()Z" } : Jvm.MethodName)).before a0 Z = true := hw _ (List.mem_of_getElem? (i := 27) rfl)
theorem ow_28 {Z : State} {a0 : Array Value} (hw : ∀ d ∈ tables_1, d.before a0 Z = true) : (Jvm.Cond.selects "com/example/kindred/kindred/matching/Preparation" ({ cls := "com/example/kindred/kindred/matching/Preparation", name := "keepsEveryCharacter", desc := "()Z" } : Jvm.MethodName) ({ cls := "com/example/kindred/kindred/matching/Preparation", name := "keepsEveryCharacter", desc := "()Z" } : Jvm.MethodName)).before a0 Z = true := hw _ (List.mem_of_getElem? (i := 28) rfl)
theorem ow_29 {Z : State} {a0 : Array Value} (hw : ∀ d ∈ tables_1, d.before a0 Z = true) : (Jvm.Cond.code ({ cls := "com/example/kindred/kindred/matching/Preparation", name := "keepsEveryCharacter", desc := "()Z" } : Jvm.MethodName) prog_19_method_4_code (1 : Nat) (Option.some Jvm.ClassFile.FieldType.boolean)).before a0 Z = true := hw _ (List.mem_of_getElem? (i := 29) rfl)
theorem ow_30 {Z : State} {a0 : Array Value} (hw : ∀ d ∈ tables_1, d.before a0 Z = true) : (Jvm.Cond.classLink "com/example/kindred/kindred/matching/PreparationKeepsEveryCharacterPinLaw" (7 : Nat) "java/lang/String").before a0 Z = true := hw _ (List.mem_of_getElem? (i := 30) rfl)
theorem ow_31 {Z : State} {a0 : Array Value} (hw : ∀ d ∈ tables_1, d.before a0 Z = true) : (Jvm.Cond.instantiable "java/lang/String" (4 : Nat)).before a0 Z = true := hw _ (List.mem_of_getElem? (i := 31) rfl)
theorem ow_32 {Z : State} {a0 : Array Value} (hw : ∀ d ∈ tables_1, d.before a0 Z = true) : (Jvm.Cond.initialized "java/lang/String").before a0 Z = true := hw _ (List.mem_of_getElem? (i := 32) rfl)
theorem ow_33 {Z : State} {a0 : Array Value} (hw : ∀ d ∈ tables_1, d.before a0 Z = true) : (Jvm.Cond.arrayClass Jvm.ClassFile.FieldType.char).before a0 Z = true := hw _ (List.mem_of_getElem? (i := 33) rfl)
theorem ow_34 {Z : State} {a0 : Array Value} (hw : ∀ d ∈ tables_1, d.before a0 Z = true) : (Jvm.Cond.methodLink "com/example/kindred/kindred/matching/PreparationKeepsEveryCharacterPinLaw" (9 : Nat) ({ cls := "java/lang/String", name := "<init>", desc := "([C)V" } : Jvm.MethodName)).before a0 Z = true := hw _ (List.mem_of_getElem? (i := 34) rfl)
theorem ow_35 {Z : State} {a0 : Array Value} (hw : ∀ d ∈ tables_1, d.before a0 Z = true) : (Jvm.Cond.instanceMethod ({ cls := "java/lang/String", name := "<init>", desc := "([C)V" } : Jvm.MethodName)).before a0 Z = true := hw _ (List.mem_of_getElem? (i := 35) rfl)
theorem ow_36 {Z : State} {a0 : Array Value} (hw : ∀ d ∈ tables_1, d.before a0 Z = true) : (Jvm.Cond.code ({ cls := "java/lang/String", name := "<init>", desc := "([C)V" } : Jvm.MethodName) jdk_42_method_3_code (2 : Nat) (Option.none : Option Jvm.ClassFile.FieldType)).before a0 Z = true := hw _ (List.mem_of_getElem? (i := 36) rfl)
theorem ow_37 {Z : State} {a0 : Array Value} (hw : ∀ d ∈ tables_1, d.before a0 Z = true) : (Jvm.Cond.methodLink "java/lang/String" (27 : Nat) ({ cls := "java/lang/String", name := "<init>", desc := "([CIILjava/lang/Void;)V" } : Jvm.MethodName)).before a0 Z = true := hw _ (List.mem_of_getElem? (i := 37) rfl)
theorem ow_38 {Z : State} {a0 : Array Value} (hw : ∀ d ∈ tables_1, d.before a0 Z = true) : (Jvm.Cond.instanceMethod ({ cls := "java/lang/String", name := "<init>", desc := "([CIILjava/lang/Void;)V" } : Jvm.MethodName)).before a0 Z = true := hw _ (List.mem_of_getElem? (i := 38) rfl)
theorem ow_40 {Z : State} {a0 : Array Value} (hw : ∀ d ∈ tables_1, d.before a0 Z = true) : (Jvm.Cond.code ({ cls := "java/lang/String", name := "<init>", desc := "([CIILjava/lang/Void;)V" } : Jvm.MethodName) jdk_42_method_149_code (6 : Nat) (Option.none : Option Jvm.ClassFile.FieldType)).before a0 Z = true := hw _ (List.mem_of_getElem? (i := 40) rfl)
theorem ow_41 {Z : State} {a0 : Array Value} (hw : ∀ d ∈ tables_1, d.before a0 Z = true) : (Jvm.Cond.methodLink "java/lang/String" (1 : Nat) ({ cls := "java/lang/Object", name := "<init>", desc := "()V" } : Jvm.MethodName)).before a0 Z = true := hw _ (List.mem_of_getElem? (i := 41) rfl)
theorem ow_42 {Z : State} {a0 : Array Value} (hw : ∀ d ∈ tables_1, d.before a0 Z = true) : (Jvm.Cond.stringLink "java/lang/String" (7 : Nat) "").before a0 Z = true := hw _ (List.mem_of_getElem? (i := 42) rfl)
theorem ow_43 {Z : State} {a0 : Array Value} (hw : ∀ d ∈ tables_1, d.before a0 Z = true) : (Jvm.Cond.arrayClass Jvm.ClassFile.FieldType.byte).before a0 Z = true := hw _ (List.mem_of_getElem? (i := 43) rfl)
theorem ow_44 {Z : State} {a0 : Array Value} (hw : ∀ d ∈ tables_1, d.before a0 Z = true) : (Jvm.Cond.laysFinal "java/lang/String" "java/lang/String" "value" "[B").before a0 Z = true := hw _ (List.mem_of_getElem? (i := 44) rfl)
theorem ow_45 {Z : State} {a0 : Array Value} (hw : ∀ d ∈ tables_1, d.before a0 Z = true) : (Jvm.Cond.laysFinal "java/lang/String" "java/lang/String" "coder" "B").before a0 Z = true := hw _ (List.mem_of_getElem? (i := 45) rfl)
theorem ow_48 {Z : State} {a0 : Array Value} (hw : ∀ d ∈ tables_1, d.before a0 Z = true) : (Jvm.Cond.fieldLink "java/lang/String" (9 : Nat) "java/lang/String" "value" "[B").before a0 Z = true := hw _ (List.mem_of_getElem? (i := 48) rfl)
theorem ow_49 {Z : State} {a0 : Array Value} (hw : ∀ d ∈ tables_1, d.before a0 Z = true) : (Jvm.Cond.fieldLink "java/lang/String" (15 : Nat) "java/lang/String" "coder" "B").before a0 Z = true := hw _ (List.mem_of_getElem? (i := 49) rfl)
theorem ow_50 {Z : State} {a0 : Array Value} (hw : ∀ d ∈ tables_1, d.before a0 Z = true) : (Jvm.Cond.fieldLink "com/example/kindred/kindred/matching/PreparationKeepsEveryCharacterPinLaw" (28 : Nat) "com/example/kindred/kindred/matching/Preparation$LetterCase" "LOWER" "Lcom/example/kindred/kindred/matching/Preparation$LetterCase;").before a0 Z = true := hw _ (List.mem_of_getElem? (i := 50) rfl)
theorem ow_51 {Z : State} {a0 : Array Value} (hw : ∀ d ∈ tables_1, d.before a0 Z = true) : (Jvm.Cond.laysStatic "com/example/kindred/kindred/matching/Preparation$LetterCase" "LOWER" "Lcom/example/kindred/kindred/matching/Preparation$LetterCase;").before a0 Z = true := hw _ (List.mem_of_getElem? (i := 51) rfl)
theorem ow_52 {Z : State} {a0 : Array Value} (hw : ∀ d ∈ tables_1, d.before a0 Z = true) : (Jvm.Cond.classLink "com/example/kindred/kindred/matching/PreparationKeepsEveryCharacterPinLaw" (31 : Nat) "com/example/kindred/kindred/matching/Preparation$Take").before a0 Z = true := hw _ (List.mem_of_getElem? (i := 52) rfl)
theorem ow_53 {Z : State} {a0 : Array Value} (hw : ∀ d ∈ tables_1, d.before a0 Z = true) : (Jvm.Cond.instantiable "com/example/kindred/kindred/matching/Preparation$Take" (2 : Nat)).before a0 Z = true := hw _ (List.mem_of_getElem? (i := 53) rfl)
theorem ow_54 {Z : State} {a0 : Array Value} (hw : ∀ d ∈ tables_1, d.before a0 Z = true) : (Jvm.Cond.initialized "com/example/kindred/kindred/matching/Preparation$Take").before a0 Z = true := hw _ (List.mem_of_getElem? (i := 54) rfl)
theorem ow_55 {Z : State} {a0 : Array Value} (hw : ∀ d ∈ tables_1, d.before a0 Z = true) : (Jvm.Cond.constant "com/example/kindred/kindred/matching/PreparationKeepsEveryCharacterPinLaw" (33 : Nat) (2147483647 : Int32)).before a0 Z = true := hw _ (List.mem_of_getElem? (i := 55) rfl)
theorem ow_56 {Z : State} {a0 : Array Value} (hw : ∀ d ∈ tables_1, d.before a0 Z = true) : (Jvm.Cond.methodLink "com/example/kindred/kindred/matching/PreparationKeepsEveryCharacterPinLaw" (34 : Nat) ({ cls := "java/lang/Math", name := "max", desc := "(II)I" } : Jvm.MethodName)).before a0 Z = true := hw _ (List.mem_of_getElem? (i := 56) rfl)
theorem ow_57 {Z : State} {a0 : Array Value} (hw : ∀ d ∈ tables_1, d.before a0 Z = true) : (Jvm.Cond.static ({ cls := "java/lang/Math", name := "max", desc := "(II)I" } : Jvm.MethodName)).before a0 Z = true := hw _ (List.mem_of_getElem? (i := 57) rfl)
theorem ow_58 {Z : State} {a0 : Array Value} (hw : ∀ d ∈ tables_1, d.before a0 Z = true) : (Jvm.Cond.initialized "java/lang/Math").before a0 Z = true := hw _ (List.mem_of_getElem? (i := 58) rfl)
theorem ow_59 {Z : State} {a0 : Array Value} (hw : ∀ d ∈ tables_1, d.before a0 Z = true) : (Jvm.Cond.code ({ cls := "java/lang/Math", name := "max", desc := "(II)I" } : Jvm.MethodName) jdk_29_method_65_code (2 : Nat) (Option.some Jvm.ClassFile.FieldType.int)).before a0 Z = true := hw _ (List.mem_of_getElem? (i := 59) rfl)
theorem ow_60 {Z : State} {a0 : Array Value} (hw : ∀ d ∈ tables_1, d.before a0 Z = true) : (Jvm.Cond.methodLink "com/example/kindred/kindred/matching/PreparationKeepsEveryCharacterPinLaw" (40 : Nat) ({ cls := "com/example/kindred/kindred/matching/Preparation$Take", name := "<init>", desc := "(ZI)V" } : Jvm.MethodName)).before a0 Z = true := hw _ (List.mem_of_getElem? (i := 60) rfl)
theorem ow_61 {Z : State} {a0 : Array Value} (hw : ∀ d ∈ tables_1, d.before a0 Z = true) : (Jvm.Cond.instanceMethod ({ cls := "com/example/kindred/kindred/matching/Preparation$Take", name := "<init>", desc := "(ZI)V" } : Jvm.MethodName)).before a0 Z = true := hw _ (List.mem_of_getElem? (i := 61) rfl)
theorem ow_62 {Z : State} {a0 : Array Value} (hw : ∀ d ∈ tables_1, d.before a0 Z = true) : (Jvm.Cond.code ({ cls := "com/example/kindred/kindred/matching/Preparation$Take", name := "<init>", desc := "(ZI)V" } : Jvm.MethodName) prog_21_method_1_code (3 : Nat) (Option.none : Option Jvm.ClassFile.FieldType)).before a0 Z = true := hw _ (List.mem_of_getElem? (i := 62) rfl)
theorem ow_63 {Z : State} {a0 : Array Value} (hw : ∀ d ∈ tables_1, d.before a0 Z = true) : (Jvm.Cond.methodLink "com/example/kindred/kindred/matching/Preparation$Take" (1 : Nat) ({ cls := "java/lang/Record", name := "<init>", desc := "()V" } : Jvm.MethodName)).before a0 Z = true := hw _ (List.mem_of_getElem? (i := 63) rfl)
theorem ow_64 {Z : State} {a0 : Array Value} (hw : ∀ d ∈ tables_1, d.before a0 Z = true) : (Jvm.Cond.fieldLink "com/example/kindred/kindred/matching/Preparation$Take" (16 : Nat) "com/example/kindred/kindred/matching/Preparation$Take" "fromEnd" "Z").before a0 Z = true := hw _ (List.mem_of_getElem? (i := 64) rfl)
theorem ow_65 {Z : State} {a0 : Array Value} (hw : ∀ d ∈ tables_1, d.before a0 Z = true) : (Jvm.Cond.laysFinal "com/example/kindred/kindred/matching/Preparation$Take" "com/example/kindred/kindred/matching/Preparation$Take" "fromEnd" "Z").before a0 Z = true := hw _ (List.mem_of_getElem? (i := 65) rfl)
theorem ow_66 {Z : State} {a0 : Array Value} (hw : ∀ d ∈ tables_1, d.before a0 Z = true) : (Jvm.Cond.fieldLink "com/example/kindred/kindred/matching/Preparation$Take" (22 : Nat) "com/example/kindred/kindred/matching/Preparation$Take" "count" "I").before a0 Z = true := hw _ (List.mem_of_getElem? (i := 66) rfl)
theorem ow_67 {Z : State} {a0 : Array Value} (hw : ∀ d ∈ tables_1, d.before a0 Z = true) : (Jvm.Cond.laysFinal "com/example/kindred/kindred/matching/Preparation$Take" "com/example/kindred/kindred/matching/Preparation$Take" "count" "I").before a0 Z = true := hw _ (List.mem_of_getElem? (i := 67) rfl)
theorem ow_68 {Z : State} {a0 : Array Value} (hw : ∀ d ∈ tables_1, d.before a0 Z = true) : (Jvm.Cond.fieldLink "com/example/kindred/kindred/matching/PreparationKeepsEveryCharacterPinLaw" (16 : Nat) "com/example/kindred/kindred/matching/Preparation$LetterCase" "INSENSITIVE" "Lcom/example/kindred/kindred/matching/Preparation$LetterCase;").before a0 Z = true := hw _ (List.mem_of_getElem? (i := 68) rfl)
theorem ow_69 {Z : State} {a0 : Array Value} (hw : ∀ d ∈ tables_1, d.before a0 Z = true) : (Jvm.Cond.laysStatic "com/example/kindred/kindred/matching/Preparation$LetterCase" "INSENSITIVE" "Lcom/example/kindred/kindred/matching/Preparation$LetterCase;").before a0 Z = true := hw _ (List.mem_of_getElem? (i := 69) rfl)
theorem ow_70 {Z : State} {a0 : Array Value} (hw : ∀ d ∈ tables_1, d.before a0 Z = true) : (Jvm.Cond.fieldLink "java/lang/String" (38 : Nat) "java/lang/String" "COMPACT_STRINGS" "Z").before a0 Z = true := hw _ (List.mem_of_getElem? (i := 70) rfl)
theorem ow_81 {Z : State} {a0 : Array Value} (hw : ∀ d ∈ tables_1, d.before a0 Z = true) : (Jvm.Cond.fieldLink "com/example/kindred/kindred/matching/PreparationKeepsEveryCharacterPinLaw" (25 : Nat) "com/example/kindred/kindred/matching/Preparation$LetterCase" "UPPER" "Lcom/example/kindred/kindred/matching/Preparation$LetterCase;").before a0 Z = true := hw _ (List.mem_of_getElem? (i := 81) rfl)
theorem ow_82 {Z : State} {a0 : Array Value} (hw : ∀ d ∈ tables_1, d.before a0 Z = true) : (Jvm.Cond.laysStatic "com/example/kindred/kindred/matching/Preparation$LetterCase" "UPPER" "Lcom/example/kindred/kindred/matching/Preparation$LetterCase;").before a0 Z = true := hw _ (List.mem_of_getElem? (i := 82) rfl)
theorem ow_83 {Z : State} {a0 : Array Value} (hw : ∀ d ∈ tables_1, d.before a0 Z = true) : (Jvm.Cond.methodLink "com/example/kindred/kindred/matching/PreparationKeepsEveryCharacterPinLaw" (12 : Nat) ({ cls := "java/lang/String", name := "valueOf", desc := "(C)Ljava/lang/String;" } : Jvm.MethodName)).before a0 Z = true := hw _ (List.mem_of_getElem? (i := 83) rfl)
theorem ow_84 {Z : State} {a0 : Array Value} (hw : ∀ d ∈ tables_1, d.before a0 Z = true) : (Jvm.Cond.static ({ cls := "java/lang/String", name := "valueOf", desc := "(C)Ljava/lang/String;" } : Jvm.MethodName)).before a0 Z = true := hw _ (List.mem_of_getElem? (i := 84) rfl)
theorem ow_85 {Z : State} {a0 : Array Value} (hw : ∀ d ∈ tables_1, d.before a0 Z = true) : (Jvm.Cond.code ({ cls := "java/lang/String", name := "valueOf", desc := "(C)Ljava/lang/String;" } : Jvm.MethodName) jdk_42_method_139_code (1 : Nat) (Option.some (Jvm.ClassFile.FieldType.object "java/lang/String"))).before a0 Z = true := hw _ (List.mem_of_getElem? (i := 85) rfl)
theorem ow_86 {Z : State} {a0 : Array Value} (hw : ∀ d ∈ tables_1, d.before a0 Z = true) : (Jvm.Cond.methodLink "java/lang/String" (1015 : Nat) ({ cls := "java/lang/StringLatin1", name := "canEncode", desc := "(C)Z" } : Jvm.MethodName)).before a0 Z = true := hw _ (List.mem_of_getElem? (i := 86) rfl)
theorem ow_87 {Z : State} {a0 : Array Value} (hw : ∀ d ∈ tables_1, d.before a0 Z = true) : (Jvm.Cond.static ({ cls := "java/lang/StringLatin1", name := "canEncode", desc := "(C)Z" } : Jvm.MethodName)).before a0 Z = true := hw _ (List.mem_of_getElem? (i := 87) rfl)
theorem ow_88 {Z : State} {a0 : Array Value} (hw : ∀ d ∈ tables_1, d.before a0 Z = true) : (Jvm.Cond.initialized "java/lang/StringLatin1").before a0 Z = true := hw _ (List.mem_of_getElem? (i := 88) rfl)
theorem ow_89 {Z : State} {a0 : Array Value} (hw : ∀ d ∈ tables_1, d.before a0 Z = true) : (Jvm.Cond.code ({ cls := "java/lang/StringLatin1", name := "canEncode", desc := "(C)Z" } : Jvm.MethodName) jdk_43_method_3_code (1 : Nat) (Option.some Jvm.ClassFile.FieldType.boolean)).before a0 Z = true := hw _ (List.mem_of_getElem? (i := 89) rfl)
theorem ow_90 {Z : State} {a0 : Array Value} (hw : ∀ d ∈ tables_1, d.before a0 Z = true) : (Jvm.Cond.classLink "java/lang/String" (10 : Nat) "java/lang/String").before a0 Z = true := hw _ (List.mem_of_getElem? (i := 90) rfl)
theorem ow_91 {Z : State} {a0 : Array Value} (hw : ∀ d ∈ tables_1, d.before a0 Z = true) : (Jvm.Cond.methodLink "java/lang/String" (1018 : Nat) ({ cls := "java/lang/StringLatin1", name := "toBytes", desc := "(C)[B" } : Jvm.MethodName)).before a0 Z = true := hw _ (List.mem_of_getElem? (i := 91) rfl)
theorem ow_92 {Z : State} {a0 : Array Value} (hw : ∀ d ∈ tables_1, d.before a0 Z = true) : (Jvm.Cond.static ({ cls := "java/lang/StringLatin1", name := "toBytes", desc := "(C)[B" } : Jvm.MethodName)).before a0 Z = true := hw _ (List.mem_of_getElem? (i := 92) rfl)
theorem ow_93 {Z : State} {a0 : Array Value} (hw : ∀ d ∈ tables_1, d.before a0 Z = true) : (Jvm.Cond.code ({ cls := "java/lang/StringLatin1", name := "toBytes", desc := "(C)[B" } : Jvm.MethodName) jdk_43_method_46_code (1 : Nat) (Option.some (Jvm.ClassFile.FieldType.array Jvm.ClassFile.FieldType.byte))).before a0 Z = true := hw _ (List.mem_of_getElem? (i := 93) rfl)
theorem ow_94 {Z : State} {a0 : Array Value} (hw : ∀ d ∈ tables_1, d.before a0 Z = true) : (Jvm.Cond.methodLink "java/lang/String" (209 : Nat) ({ cls := "java/lang/String", name := "<init>", desc := "([BB)V" } : Jvm.MethodName)).before a0 Z = true := hw _ (List.mem_of_getElem? (i := 94) rfl)
theorem ow_95 {Z : State} {a0 : Array Value} (hw : ∀ d ∈ tables_1, d.before a0 Z = true) : (Jvm.Cond.instanceMethod ({ cls := "java/lang/String", name := "<init>", desc := "([BB)V" } : Jvm.MethodName)).before a0 Z = true := hw _ (List.mem_of_getElem? (i := 95) rfl)
theorem ow_96 {Z : State} {a0 : Array Value} (hw : ∀ d ∈ tables_1, d.before a0 Z = true) : (Jvm.Cond.code ({ cls := "java/lang/String", name := "<init>", desc := "([BB)V" } : Jvm.MethodName) jdk_42_method_151_code (3 : Nat) (Option.none : Option Jvm.ClassFile.FieldType)).before a0 Z = true := hw _ (List.mem_of_getElem? (i := 96) rfl)
abbrev own_EL : List (String × Nat) := [("java/lang/String", 7)]
theorem own_ew {Z : State} {a0 : Array Value} (hw : ∀ d ∈ tables_1, d.before a0 Z = true) : EW Z a0 own_EL := (EW.cons (ow_42 hw) (by decide) EW.nil)
theorem own_ws {Z : State} {a0 : Array Value} (hw : ∀ d ∈ tables_1, d.before a0 Z = true) : ∀ a ∈ Bundle.stringAtoms, a.before a0 Z = true := fun d hd => hw d ((by decide +kernel : ∀ d ∈ Bundle.stringAtoms, d ∈ tables_1) d hd)
theorem od_jdk_43_method_3_0 : decode jdk_43_method_3_code 0 = .ok (.iload_n 0, 1) := by decide +kernel
theorem od_jdk_43_method_3_1 : decode jdk_43_method_3_code 1 = .ok (.sipush 255, 3) := by decide +kernel
theorem od_jdk_43_method_3_4 : decode jdk_43_method_3_code 4 = .ok (.if_icmp .gt 7, 3) := by decide +kernel
theorem od_jdk_43_method_3_7 : decode jdk_43_method_3_code 7 = .ok (.iconst 1, 1) := by decide +kernel
theorem od_jdk_43_method_3_8 : decode jdk_43_method_3_code 8 = .ok (.goto 4, 3) := by decide +kernel
theorem od_jdk_43_method_3_12 : decode jdk_43_method_3_code 12 = .ok (.ireturn, 1) := by decide +kernel
theorem od_jdk_43_method_46_0 : decode jdk_43_method_46_code 0 = .ok (.iconst 1, 1) := by decide +kernel
theorem od_jdk_43_method_46_1 : decode jdk_43_method_46_code 1 = .ok (.newarray .byte, 2) := by decide +kernel
theorem od_jdk_43_method_46_3 : decode jdk_43_method_46_code 3 = .ok (.dup, 1) := by decide +kernel
theorem od_jdk_43_method_46_4 : decode jdk_43_method_46_code 4 = .ok (.iconst 0, 1) := by decide +kernel
theorem od_jdk_43_method_46_5 : decode jdk_43_method_46_code 5 = .ok (.iload_n 0, 1) := by decide +kernel
theorem od_jdk_43_method_46_6 : decode jdk_43_method_46_code 6 = .ok (.i2b, 1) := by decide +kernel
theorem od_jdk_43_method_46_7 : decode jdk_43_method_46_code 7 = .ok (.bastore, 1) := by decide +kernel
theorem od_jdk_43_method_46_8 : decode jdk_43_method_46_code 8 = .ok (.areturn, 1) := by decide +kernel
theorem od_jdk_42_method_151_0 : decode jdk_42_method_151_code 0 = .ok (.aload_n 0, 1) := by decide +kernel
theorem od_jdk_42_method_151_1 : decode jdk_42_method_151_code 1 = .ok (.invokespecial 1, 3) := by decide +kernel
theorem od_jdk_42_method_151_4 : decode jdk_42_method_151_code 4 = .ok (.aload_n 0, 1) := by decide +kernel
theorem od_jdk_42_method_151_5 : decode jdk_42_method_151_code 5 = .ok (.aload_n 1, 1) := by decide +kernel
theorem od_jdk_42_method_151_6 : decode jdk_42_method_151_code 6 = .ok (.putfield 9, 3) := by decide +kernel
theorem od_jdk_42_method_151_9 : decode jdk_42_method_151_code 9 = .ok (.aload_n 0, 1) := by decide +kernel
theorem od_jdk_42_method_151_10 : decode jdk_42_method_151_code 10 = .ok (.iload_n 2, 1) := by decide +kernel
theorem od_jdk_42_method_151_11 : decode jdk_42_method_151_code 11 = .ok (.putfield 15, 3) := by decide +kernel
theorem od_jdk_42_method_151_14 : decode jdk_42_method_151_code 14 = .ok (.return_, 1) := by decide +kernel
theorem od_jdk_42_method_139_0 : decode jdk_42_method_139_code 0 = .ok (.getstatic 38, 3) := by decide +kernel
theorem od_jdk_42_method_139_3 : decode jdk_42_method_139_code 3 = .ok (.ifCond .eq 23, 3) := by decide +kernel
theorem od_jdk_42_method_139_6 : decode jdk_42_method_139_code 6 = .ok (.iload_n 0, 1) := by decide +kernel
theorem od_jdk_42_method_139_7 : decode jdk_42_method_139_code 7 = .ok (.invokestatic 1015, 3) := by decide +kernel
theorem od_jdk_42_method_139_10 : decode jdk_42_method_139_code 10 = .ok (.ifCond .eq 16, 3) := by decide +kernel
theorem od_jdk_42_method_139_13 : decode jdk_42_method_139_code 13 = .ok (.new 10, 3) := by decide +kernel
theorem od_jdk_42_method_139_16 : decode jdk_42_method_139_code 16 = .ok (.dup, 1) := by decide +kernel
theorem od_jdk_42_method_139_17 : decode jdk_42_method_139_code 17 = .ok (.iload_n 0, 1) := by decide +kernel
theorem od_jdk_42_method_139_18 : decode jdk_42_method_139_code 18 = .ok (.invokestatic 1018, 3) := by decide +kernel
theorem od_jdk_42_method_139_21 : decode jdk_42_method_139_code 21 = .ok (.iconst 0, 1) := by decide +kernel
theorem od_jdk_42_method_139_22 : decode jdk_42_method_139_code 22 = .ok (.invokespecial 209, 3) := by decide +kernel
theorem od_jdk_42_method_139_25 : decode jdk_42_method_139_code 25 = .ok (.areturn, 1) := by decide +kernel
theorem od_jdk_42_method_149_0 : decode jdk_42_method_149_code 0 = .ok (.aload_n 0, 1) := by decide +kernel
theorem od_jdk_42_method_149_1 : decode jdk_42_method_149_code 1 = .ok (.invokespecial 1, 3) := by decide +kernel
theorem od_jdk_42_method_149_4 : decode jdk_42_method_149_code 4 = .ok (.iload_n 3, 1) := by decide +kernel
theorem od_jdk_42_method_149_5 : decode jdk_42_method_149_code 5 = .ok (.ifCond .ne 22, 3) := by decide +kernel
theorem od_jdk_42_method_149_8 : decode jdk_42_method_149_code 8 = .ok (.aload_n 0, 1) := by decide +kernel
theorem od_jdk_42_method_149_9 : decode jdk_42_method_149_code 9 = .ok (.ldc 7, 2) := by decide +kernel
theorem od_jdk_42_method_149_11 : decode jdk_42_method_149_code 11 = .ok (.getfield 9, 3) := by decide +kernel
theorem od_jdk_42_method_149_14 : decode jdk_42_method_149_code 14 = .ok (.putfield 9, 3) := by decide +kernel
theorem od_jdk_42_method_149_17 : decode jdk_42_method_149_code 17 = .ok (.aload_n 0, 1) := by decide +kernel
theorem od_jdk_42_method_149_18 : decode jdk_42_method_149_code 18 = .ok (.ldc 7, 2) := by decide +kernel
theorem od_jdk_42_method_149_20 : decode jdk_42_method_149_code 20 = .ok (.getfield 15, 3) := by decide +kernel
theorem od_jdk_42_method_149_23 : decode jdk_42_method_149_code 23 = .ok (.putfield 15, 3) := by decide +kernel
theorem od_jdk_42_method_149_26 : decode jdk_42_method_149_code 26 = .ok (.return_, 1) := by decide +kernel
theorem od_jdk_42_method_3_0 : decode jdk_42_method_3_code 0 = .ok (.aload_n 0, 1) := by decide +kernel
theorem od_jdk_42_method_3_1 : decode jdk_42_method_3_code 1 = .ok (.aload_n 1, 1) := by decide +kernel
theorem od_jdk_42_method_3_2 : decode jdk_42_method_3_code 2 = .ok (.iconst 0, 1) := by decide +kernel
theorem od_jdk_42_method_3_3 : decode jdk_42_method_3_code 3 = .ok (.aload_n 1, 1) := by decide +kernel
theorem od_jdk_42_method_3_4 : decode jdk_42_method_3_code 4 = .ok (.arraylength, 1) := by decide +kernel
theorem od_jdk_42_method_3_5 : decode jdk_42_method_3_code 5 = .ok (.aconst_null, 1) := by decide +kernel
theorem od_jdk_42_method_3_6 : decode jdk_42_method_3_code 6 = .ok (.invokespecial 27, 3) := by decide +kernel
theorem od_jdk_42_method_3_9 : decode jdk_42_method_3_code 9 = .ok (.return_, 1) := by decide +kernel
theorem od_jdk_30_method_1_0 : decode jdk_30_method_1_code 0 = .ok (.aload_n 0, 1) := by decide +kernel
theorem od_jdk_30_method_1_1 : decode jdk_30_method_1_code 1 = .ok (.invokespecial 1, 3) := by decide +kernel
theorem od_jdk_30_method_1_4 : decode jdk_30_method_1_code 4 = .ok (.return_, 1) := by decide +kernel
theorem od_jdk_29_method_65_0 : decode jdk_29_method_65_code 0 = .ok (.iload_n 0, 1) := by decide +kernel
theorem od_jdk_29_method_65_1 : decode jdk_29_method_65_code 1 = .ok (.iload_n 1, 1) := by decide +kernel
theorem od_jdk_29_method_65_2 : decode jdk_29_method_65_code 2 = .ok (.if_icmp .lt 7, 3) := by decide +kernel
theorem od_jdk_29_method_65_9 : decode jdk_29_method_65_code 9 = .ok (.iload_n 1, 1) := by decide +kernel
theorem od_jdk_29_method_65_10 : decode jdk_29_method_65_code 10 = .ok (.ireturn, 1) := by decide +kernel
theorem od_jdk_29_method_65_5 : decode jdk_29_method_65_code 5 = .ok (.iload_n 0, 1) := by decide +kernel
theorem od_jdk_29_method_65_6 : decode jdk_29_method_65_code 6 = .ok (.goto 4, 3) := by decide +kernel
theorem od_prog_21_method_1_0 : decode prog_21_method_1_code 0 = .ok (.aload_n 0, 1) := by decide +kernel
theorem od_prog_21_method_1_1 : decode prog_21_method_1_code 1 = .ok (.invokespecial 1, 3) := by decide +kernel
theorem od_prog_21_method_1_4 : decode prog_21_method_1_code 4 = .ok (.iload_n 2, 1) := by decide +kernel
theorem od_prog_21_method_1_5 : decode prog_21_method_1_code 5 = .ok (.iconst 1, 1) := by decide +kernel
theorem od_prog_21_method_1_6 : decode prog_21_method_1_code 6 = .ok (.if_icmp .ge 17, 3) := by decide +kernel
theorem od_prog_21_method_1_23 : decode prog_21_method_1_code 23 = .ok (.aload_n 0, 1) := by decide +kernel
theorem od_prog_21_method_1_24 : decode prog_21_method_1_code 24 = .ok (.iload_n 1, 1) := by decide +kernel
theorem od_prog_21_method_1_25 : decode prog_21_method_1_code 25 = .ok (.putfield 16, 3) := by decide +kernel
theorem od_prog_21_method_1_28 : decode prog_21_method_1_code 28 = .ok (.aload_n 0, 1) := by decide +kernel
theorem od_prog_21_method_1_29 : decode prog_21_method_1_code 29 = .ok (.iload_n 2, 1) := by decide +kernel
theorem od_prog_21_method_1_30 : decode prog_21_method_1_code 30 = .ok (.putfield 22, 3) := by decide +kernel
theorem od_prog_21_method_1_33 : decode prog_21_method_1_code 33 = .ok (.return_, 1) := by decide +kernel
theorem od_prog_19_method_1_0 : decode prog_19_method_1_code 0 = .ok (.aload_n 0, 1) := by decide +kernel
theorem od_prog_19_method_1_1 : decode prog_19_method_1_code 1 = .ok (.invokespecial 1, 3) := by decide +kernel
theorem od_prog_19_method_1_4 : decode prog_19_method_1_code 4 = .ok (.aload_n 0, 1) := by decide +kernel
theorem od_prog_19_method_1_5 : decode prog_19_method_1_code 5 = .ok (.iload_n 1, 1) := by decide +kernel
theorem od_prog_19_method_1_6 : decode prog_19_method_1_code 6 = .ok (.putfield 7, 3) := by decide +kernel
theorem od_prog_19_method_1_9 : decode prog_19_method_1_code 9 = .ok (.aload_n 0, 1) := by decide +kernel
theorem od_prog_19_method_1_10 : decode prog_19_method_1_code 10 = .ok (.aload_n 2, 1) := by decide +kernel
theorem od_prog_19_method_1_11 : decode prog_19_method_1_code 11 = .ok (.putfield 13, 3) := by decide +kernel
theorem od_prog_19_method_1_14 : decode prog_19_method_1_code 14 = .ok (.aload_n 0, 1) := by decide +kernel
theorem od_prog_19_method_1_15 : decode prog_19_method_1_code 15 = .ok (.aload_n 3, 1) := by decide +kernel
theorem od_prog_19_method_1_16 : decode prog_19_method_1_code 16 = .ok (.putfield 17, 3) := by decide +kernel
theorem od_prog_19_method_1_19 : decode prog_19_method_1_code 19 = .ok (.aload_n 0, 1) := by decide +kernel
theorem od_prog_19_method_1_20 : decode prog_19_method_1_code 20 = .ok (.aload 4, 2) := by decide +kernel
theorem od_prog_19_method_1_22 : decode prog_19_method_1_code 22 = .ok (.putfield 21, 3) := by decide +kernel
theorem od_prog_19_method_1_25 : decode prog_19_method_1_code 25 = .ok (.return_, 1) := by decide +kernel
theorem od_prog_19_method_4_0 : decode prog_19_method_4_code 0 = .ok (.aload_n 0, 1) := by decide +kernel
theorem od_prog_19_method_4_1 : decode prog_19_method_4_code 1 = .ok (.getfield 7, 3) := by decide +kernel
theorem od_prog_19_method_4_4 : decode prog_19_method_4_code 4 = .ok (.ifCond .ne 14, 3) := by decide +kernel
theorem od_prog_19_method_4_18 : decode prog_19_method_4_code 18 = .ok (.iconst 0, 1) := by decide +kernel
theorem od_prog_19_method_4_19 : decode prog_19_method_4_code 19 = .ok (.ireturn, 1) := by decide +kernel
theorem od_prog_19_method_4_7 : decode prog_19_method_4_code 7 = .ok (.aload_n 0, 1) := by decide +kernel
theorem od_prog_19_method_4_8 : decode prog_19_method_4_code 8 = .ok (.getfield 13, 3) := by decide +kernel
theorem od_prog_19_method_4_11 : decode prog_19_method_4_code 11 = .ok (.ifnonnull 7, 3) := by decide +kernel
theorem od_prog_19_method_4_14 : decode prog_19_method_4_code 14 = .ok (.iconst 1, 1) := by decide +kernel
theorem od_prog_19_method_4_15 : decode prog_19_method_4_code 15 = .ok (.goto 4, 3) := by decide +kernel
theorem opd_0 : parseMethodDescriptor "(C)Z" = some ⟨[.char], some .boolean⟩ := by decide +kernel
theorem opd_1 : parseMethodDescriptor "(C)[B" = some ⟨[.char], some (.array .byte)⟩ := by decide +kernel
theorem opd_2 : parseMethodDescriptor "([BB)V" = some ⟨[(.array .byte), .byte], none⟩ := by decide +kernel
theorem opd_3 : parseMethodDescriptor "([CIILjava/lang/Void;)V" = some ⟨[(.array .char), .int, .int, (.object "java/lang/Void")], none⟩ := by decide +kernel
theorem opd_4 : parseMethodDescriptor "()V" = some ⟨[], none⟩ := by decide +kernel
theorem opd_5 : parseMethodDescriptor "(ZLjava/lang/String;Lcom/example/kindred/kindred/matching/Preparation$LetterCase;Lcom/example/kindred/kindred/matching/Preparation$Take;)V" = some ⟨[.boolean, (.object "java/lang/String"), (.object "com/example/kindred/kindred/matching/Preparation$LetterCase"), (.object "com/example/kindred/kindred/matching/Preparation$Take")], none⟩ := by decide +kernel
theorem opd_6 : parseMethodDescriptor "()Z" = some ⟨[], some .boolean⟩ := by decide +kernel
theorem opd_7 : parseMethodDescriptor "(II)I" = some ⟨[.int, .int], some .int⟩ := by decide +kernel
theorem opd_8 : parseMethodDescriptor "(ZI)V" = some ⟨[.boolean, .int], none⟩ := by decide +kernel
theorem opd_9 : parseMethodDescriptor "([C)V" = some ⟨[(.array .char)], none⟩ := by decide +kernel
theorem opd_10 : parseMethodDescriptor "(C)Ljava/lang/String;" = some ⟨[.char], some (.object "java/lang/String")⟩ := by decide +kernel
theorem ef_rm_canEncode (m : MethodId) (x0 : Int32) : entryFrame m #[(.int x0)] 1 = mkF m 0 #[.val (.int x0)] [] := by first | (simp [entryFrame, mkF, argsToLocals, Value.category]; done) | rfl
set_option maxRecDepth 65536 in
set_option maxHeartbeats 40000000 in
theorem rm_canEncode (l : Launch) (Z : State) (a0 : Array Value) (hw : ∀ d ∈ tables_1, d.before a0 Z = true) (p1 : Int32) (h0 : Heap) (n0 : Nat) (Z0 : n0 ≤ h0.size) (hc1 : ¬ (255 : Int32) < p1) :
    own_Met l Z (⟨"java/lang/StringLatin1", "canEncode", "(C)Z"⟩ : MethodName) jdk_43_method_3_code 1 (some .boolean) ({ frames := 0, cells := 0, slots := 0, locals := 0 } : Room) #[(.int p1)] h0 (fun v h L => v = some (.int (1 : Int32)) ∧ Fr n0 L ∧ h0 = h) := by
  refine own_body (plainFor_of_name (by first | (simp [plainName, overriddenIn]; done) | decide +kernel)) ?_
  intro p e s m below meth c s₁ hx hby hml hown hnm hlk hrt hZ X0 e0
  refine own_enter (ef_rm_canEncode m p1) ?_
  have N0 := Fr.nil n0
  refine own_iloadN X0 hx hby od_jdk_43_method_3_0 (pc' := 1) rfl rfl ?_
  refine own_sipush X0 hx hby od_jdk_43_method_3_1 (pc' := 4) rfl (z := 255) rfl ?_
  refine own_icmpN X0 hx hby od_jdk_43_method_3_4 (pc' := 7) rfl (flt hc1).2.2.1 ?_
  refine own_iconst X0 hx hby od_jdk_43_method_3_7 (pc' := 8) rfl (z := 1) rfl ?_
  refine own_goto X0 hx hby od_jdk_43_method_3_8 (by decide) (pc' := 12) (by decide) ?_
  exact own_retN X0 hx hby hlk hrt (by simp) od_jdk_43_method_3_12 (z' := (1 : Int32)) rfl (by first | exact ⟨rfl, N0, rfl⟩ | (rw [e0]; exact ⟨rfl, N0, rfl⟩)) (by decide) (by decide)
theorem ef_rm_toBytes (m : MethodId) (x0 : Int32) : entryFrame m #[(.int x0)] 1 = mkF m 0 #[.val (.int x0)] [] := by first | (simp [entryFrame, mkF, argsToLocals, Value.category]; done) | rfl
set_option maxRecDepth 65536 in
set_option maxHeartbeats 40000000 in
theorem rm_toBytes (l : Launch) (Z : State) (a0 : Array Value) (hw : ∀ d ∈ tables_1, d.before a0 Z = true) (p1 : Int32) (h0 : Heap) (n0 : Nat) (Z0 : n0 ≤ h0.size) :
    own_Met l Z (⟨"java/lang/StringLatin1", "toBytes", "(C)[B"⟩ : MethodName) jdk_43_method_46_code 1 (some (.array .byte)) ({ frames := 0, cells := 1, slots := 1, locals := 0 } : Room) #[(.int p1)] h0 (fun v h L => ∃ (b : Addr) (kA : ClassId), v = some (.ref b) ∧ n0 ≤ b ∧ Ext h0 h ∧ Fr n0 L ∧ Arv Z h b kA .byte (1 : Int32) [(.int p1.toInt8.toInt32)] (.int (0 : Int32))) := by
  refine own_body (plainFor_of_name (by first | (simp [plainName, overriddenIn]; done) | decide +kernel)) ?_
  intro p e s m below meth c s₁ hx hby hml hown hnm hlk hrt hZ X0 e0
  refine own_enter (ef_rm_toBytes m p1) ?_
  have N0 := Fr.nil n0
  refine own_iconst X0 hx hby od_jdk_43_method_46_0 (pc' := 1) rfl (z := 1) rfl ?_
  refine own_newP (aty := .byte) X0 hx hby hZ (ow_43 hw) e0 od_jdk_43_method_46_1 (pc' := 3) rfl (by decide) (cap := 1) (by decide) (by decide) (by decide) (by decide) ?_
  intro T1 h1 b1 kA1 g1 X1 e1 E1 V_b1
  have le2 : h0.size ≤ b1 := Nat.le_of_eq g1.symm
  have n0_b1 : n0 ≤ b1 := Nat.le_trans Z0 (Nat.le_of_eq g1.symm)
  replace V_b1 : Arv Z h1 b1 kA1 .byte (1 : Int32) [(.int (0 : Int32))] (.int (0 : Int32)) := V_b1.pad (pad_rep [] (.int (0 : Int32)) 1)
  refine own_dup X1 hx hby od_jdk_43_method_46_3 (pc' := 4) rfl rfl ?_
  refine own_iconst X1 hx hby od_jdk_43_method_46_4 (pc' := 5) rfl (z := 0) rfl ?_
  refine own_iloadN X1 hx hby od_jdk_43_method_46_5 (pc' := 6) rfl rfl ?_
  refine own_i2b X1 hx hby od_jdk_43_method_46_6 (pc' := 7) rfl ?_
  refine own_stB X1 hx hby hZ e1 V_b1 ⟨by decide, by decide⟩ 0 rfl (Nat.le_of_ble_eq_true rfl) od_jdk_43_method_46_7 (pc' := 8) rfl ?_
  intro T3 h3 X3 e3 W3 V3_b1
  replace V3_b1 : Arv Z h3 b1 kA1 .byte (1 : Int32) [(.int (nar .byte (p1.toInt8.toInt32)))] (.int (0 : Int32)) := V3_b1
  have Ea4 := own_xw E1 W3 le2
  have N3 := own_fr1 (sl := ((0 : Int32)).toNatClampNeg) N0 n0_b1
  rw [own_narb] at V3_b1
  exact own_retA X3 hx hby hlk hrt rfl rfl od_jdk_43_method_46_8 (by first | exact ⟨b1, kA1, rfl, n0_b1, Ea4, N3, V3_b1⟩ | (rw [e3]; exact ⟨b1, kA1, rfl, n0_b1, Ea4, N3, V3_b1⟩)) (by decide) (by decide)
theorem ef_rm_strBB (m : MethodId) (x0 : Addr) (x1 : Addr) (x2 : Int32) : entryFrame m #[(.ref x0), (.ref x1), (.int x2)] 3 = mkF m 0 #[.val (.ref x0), .val (.ref x1), .val (.int x2)] [] := by first | (simp [entryFrame, mkF, argsToLocals, Value.category]; done) | rfl
set_option maxRecDepth 65536 in
set_option maxHeartbeats 40000000 in
theorem rm_strBB (l : Launch) (Z : State) (a0 : Array Value) (hw : ∀ d ∈ tables_1, d.before a0 Z = true) (a1 a2 : Addr) (h0 : Heap) (n0 : Nat) (Z0 : n0 ≤ h0.size) (n0_a1 : n0 ≤ a1) (A1 : Exa Z h0 a1 "java/lang/String") (F1 : Fld Z h0 a1 "java/lang/String" "value" "[B" .null) (F2 : Fld Z h0 a1 "java/lang/String" "coder" "B" (.int (0 : Int32))) :
    own_Met l Z (⟨"java/lang/String", "<init>", "([BB)V"⟩ : MethodName) jdk_42_method_151_code 3 none ({ frames := 1, cells := 0, slots := 0, locals := 12 } : Room) #[(.ref a1), (.ref a2), (.int (0 : Int32))] h0 (fun v h L => v = none ∧ Fr n0 L ∧ Keep h0 h [a1] ∧ Exa Z h a1 "java/lang/String" ∧ Fld Z h a1 "java/lang/String" "value" "[B" (.ref a2) ∧ Fld Z h a1 "java/lang/String" "coder" "B" (.int (0 : Int32))) := by
  refine own_body (plainFor_of_name (by first | (simp [plainName, overriddenIn]; done) | decide +kernel)) ?_
  intro p e s m below meth c s₁ hx hby hml hown hnm hlk hrt hZ X0 e0
  refine own_enter (ef_rm_strBB m a1 a2 (0 : Int32)) ?_
  have N0 := Fr.nil n0
  have K0 := Keep.refl h0 [a1]
  refine own_aloadN X0 hx hby od_jdk_42_method_151_0 (pc' := 1) rfl rfl rfl ?_
  refine own_initO X0 hx hby hZ hml hown (ow_41 hw) (ow_15 hw) (ow_16 hw) e0 rfl od_jdk_42_method_151_1 (pc' := 4) rfl (by decide) (W := 0) (Nat.le_refl _) (by decide) ?_
  intro T1 X1 e1
  refine own_aloadN X1 hx hby od_jdk_42_method_151_4 (pc' := 5) rfl rfl rfl ?_
  refine own_aloadN X1 hx hby od_jdk_42_method_151_5 (pc' := 6) rfl rfl rfl ?_
  refine own_putF X1 hx hby hZ hown (host := "") (Or.inl (ow_48 hw)) Via.refl e1 F1 A1 (Or.inr ⟨(ow_44 hw), rfl, hnm⟩) (ow_31 hw) (ty := (.array .byte)) (by decide) rfl rfl od_jdk_42_method_151_6 (pc' := 9) rfl ?_
  intro T2 h2 X2 e2 W2 F2_value_a1 A2_a1
  have Fw2_3 := F2.other W2 (Or.inr (slot_ne (Or.inr (ow_45 hw)) (Or.inr (ow_44 hw)) (by decide) (t := .byte) (t' := (.array .byte)) (by decide) (by decide)))
  have K4 := K0.wr W2 (Or.inl (List.mem_of_getElem? (i := 0) rfl))
  have N2 := own_fr1 (sl := Jvm.RoadKit.slotOf Z "java/lang/String" "value" "[B") N0 n0_a1
  refine own_aloadN X2 hx hby od_jdk_42_method_151_9 (pc' := 10) rfl rfl rfl ?_
  refine own_iloadN X2 hx hby od_jdk_42_method_151_10 (pc' := 11) rfl rfl ?_
  refine own_putFN X2 hx hby hZ hown (ow_49 hw) Via.refl e2 Fw2_3 A2_a1 (Or.inr ⟨(ow_45 hw), rfl, hnm⟩) (ow_31 hw) (ty := .byte) (v' := (.int (0 : Int32))) (by decide) rfl rfl od_jdk_42_method_151_11 (pc' := 14) rfl ?_
  intro T5 h5 X5 e5 W5 F5_coder_a1 A5_a1
  have Fw5_6 := F2_value_a1.other W5 (Or.inr (slot_ne (Or.inr (ow_44 hw)) (Or.inr (ow_45 hw)) (by decide) (t := (.array .byte)) (t' := .byte) (by decide) (by decide)))
  have K7 := K4.wr W5 (Or.inl (List.mem_of_getElem? (i := 0) rfl))
  have N5 := own_fr1 (sl := Jvm.RoadKit.slotOf Z "java/lang/String" "coder" "B") N2 n0_a1
  exact own_ret0 X5 hx hby hlk hrt od_jdk_42_method_151_14 (by first | exact ⟨rfl, N5, K7, A5_a1, Fw5_6, F5_coder_a1⟩ | (rw [e5]; exact ⟨rfl, N5, K7, A5_a1, Fw5_6, F5_coder_a1⟩)) (by decide) (by decide)
theorem ef_rm_valueOf (m : MethodId) (x0 : Int32) : entryFrame m #[(.int x0)] 1 = mkF m 0 #[.val (.int x0)] [] := by first | (simp [entryFrame, mkF, argsToLocals, Value.category]; done) | rfl
set_option maxRecDepth 65536 in
set_option maxHeartbeats 40000000 in
theorem rm_valueOf (l : Launch) (Z : State) (a0 : Array Value) (hw : ∀ d ∈ tables_1, d.before a0 Z = true) (p1 G1 : Int32) (h0 : Heap) (n0 : Nat) (Z0 : n0 ≤ h0.size) (S_cs : Sta Z h0 "java/lang/String" "COMPACT_STRINGS" "Z" (.int G1)) (P5 : ¬ (G1 = (0 : Int32))) (hc0 : ¬ p1 < (0 : Int32)) (hc1 : ¬ (255 : Int32) < p1) :
    own_Met l Z (⟨"java/lang/String", "valueOf", "(C)Ljava/lang/String;"⟩ : MethodName) jdk_42_method_139_code 1 (some (.object "java/lang/String")) ({ frames := 2, cells := 2, slots := 5, locals := 27 } : Room) #[(.int p1)] h0 (fun v h L => ∃ r : Addr, v = some (.ref r) ∧ n0 ≤ r ∧ Ext h0 h ∧ Fr n0 L ∧ own_Str Z h r [p1]) := by
  refine own_body (plainFor_of_name (by first | (simp [plainName, overriddenIn]; done) | decide +kernel)) ?_
  intro p e s m below meth c s₁ hx hby hml hown hnm hlk hrt hZ X0 e0
  refine own_enter (ef_rm_valueOf m p1) ?_
  have N0 := Fr.nil n0
  refine own_getS X0 hx hby hZ hown (host := "") (Or.inl (ow_70 hw)) Via.refl e0 S_cs od_jdk_42_method_139_0 (pc' := 3) rfl ?_
  intro T1 X1 e1
  refine own_ifN X1 hx hby od_jdk_42_method_139_3 (pc' := 6) rfl (feq P5).1 ?_
  refine own_iloadN X1 hx hby od_jdk_42_method_139_6 (pc' := 7) rfl rfl ?_
  refine own_callM X1 hx hby hml hZ hown (ow_86 hw) (ow_87 hw) (ow_88 hw) (ow_89 hw) (by decide) (cc := 0) (ss := 0) (rm_canEncode l Z a0 hw p1 h0 n0 Z0 hc1) 0 rfl rfl (by decide) (by decide) rfl (argsL := [(.int p1)]) (rest := []) opd_0 rfl rfl (Nat.le_refl _) od_jdk_42_method_139_7 (pc' := 10) rfl rfl e1 (by decide) (by decide) ?_
  rintro v2 T2 h2 L2 X2 e2 ⟨rfl, Nq2, rfl⟩
  have N2 := N0.app Nq2
  refine own_ifN X2 hx hby od_jdk_42_method_139_10 (pc' := 13) rfl (feq (by decide)).1 ?_
  refine own_newO X2 hx hby hZ hown (ow_90 hw) (ow_31 hw) (ow_32 hw) e2 od_jdk_42_method_139_13 (pc' := 16) rfl (by decide) (by decide) ?_
  intro T3 h3 b3 g3 X3 e3 E3 AX3 D3
  have le4 : h0.size ≤ b3 := Nat.le_of_eq g3.symm
  have n0_b3 : n0 ≤ b3 := Nat.le_trans Z0 (Nat.le_of_eq g3.symm)
  have F_value_b3 : Fld Z h3 b3 "java/lang/String" "value" "[B" .null := D3 (Or.inr (ow_44 hw)) (ty := (.array .byte)) (by decide)
  have F_coder_b3 : Fld Z h3 b3 "java/lang/String" "coder" "B" (.int (0 : Int32)) := D3 (Or.inr (ow_45 hw)) (ty := .byte) (by decide)
  refine own_dup X3 hx hby od_jdk_42_method_139_16 (pc' := 17) rfl rfl ?_
  refine own_iloadN X3 hx hby od_jdk_42_method_139_17 (pc' := 18) rfl rfl ?_
  refine own_callM X3 hx hby hml hZ hown (ow_91 hw) (ow_92 hw) (ow_88 hw) (ow_93 hw) (by decide) (cc := 1) (ss := 1) (rm_toBytes l Z a0 hw p1 h3 n0 (Nat.le_trans Z0 E3.1)) 2 rfl rfl (by decide) (by decide) rfl (argsL := [(.int p1)]) (rest := [(.ref b3), (.ref b3)]) opd_1 rfl rfl (Nat.le_refl _) od_jdk_42_method_139_18 (pc' := 21) rfl rfl e3 (by decide) (by decide) ?_
  rintro v5 T5 h5 L5 X5 e5 ⟨t5, kt5, rfl, nt5, Eq5, Nq5, Vt5⟩
  have N5 := N2.app Nq5
  have Ea6 := own_xt E3 Eq5
  refine own_iconst X5 hx hby od_jdk_42_method_139_21 (pc' := 22) rfl (z := 0) rfl ?_
  refine own_specM X5 hx hby hml hZ hown rfl (ow_94 hw) (ow_95 hw) (ow_32 hw) (ow_96 hw) (by decide) (cc := 0) (ss := 0) (rm_strBB l Z a0 hw b3 t5 h5 n0 (Nat.le_trans Z0 Ea6.1) n0_b3 (AX3.ext Eq5) (F_value_b3.ext Eq5) (F_coder_b3.ext Eq5)) 1 rfl rfl (by decide) (by decide) rfl (argsL := [(.ref t5), (.int (0 : Int32))]) (rest := [(.ref b3)]) opd_2 rfl rfl (Nat.le_refl _) od_jdk_42_method_139_22 (pc' := 25) rfl rfl e5 (by decide) (by decide) ?_
  rintro v7 T7 h7 L7 X7 e7 ⟨rfl, Nq7, Kq7, Aq7, Fv7, Fc7⟩
  have Vt := Vt5.keep Kq7 (ninS (Exa.neArv ((AX3.ext Eq5)) Vt5 (ow_31 hw)).symm nin0)
  have N7 := N5.app Nq7
  have Ea8 := own_xk Ea6 Kq7 (allS le4 all0)
  replace S_cs := S_cs.ext Ea8
  exact own_retA X7 hx hby hlk hrt rfl rfl od_jdk_42_method_139_25 (by first | exact ⟨b3, rfl, n0_b3, Ea8, N7, Aq7, Fc7, (by intro c hc; simp only [List.mem_cons, List.not_mem_nil, or_false] at hc; subst hc; exact ⟨hc0, hc1⟩), t5, kt5, Fv7, Vt⟩ | (rw [e7]; exact ⟨b3, rfl, n0_b3, Ea8, N7, Aq7, Fc7, (by intro c hc; simp only [List.mem_cons, List.not_mem_nil, or_false] at hc; subst hc; exact ⟨hc0, hc1⟩), t5, kt5, Fv7, Vt⟩)) (by decide) (by decide)
theorem ef_rm_str0v (m : MethodId) (x0 : Addr) (x1 : Addr) (x2 : Int32) (x3 : Int32) : entryFrame m #[(.ref x0), (.ref x1), (.int x2), (.int x3), .null] 6 = mkF m 0 #[.val (.ref x0), .val (.ref x1), .val (.int x2), .val (.int x3), .val .null, .unset] [] := by first | (simp [entryFrame, mkF, argsToLocals, Value.category]; done) | rfl
set_option maxRecDepth 65536 in
set_option maxHeartbeats 40000000 in
theorem rm_str0v (l : Launch) (Z : State) (a0 : Array Value) (hw : ∀ d ∈ tables_1, d.before a0 Z = true) (a1 a2 : Addr) (h0 : Heap) (n0 : Nat) (Z0 : n0 ≤ h0.size) (n0_a1 : n0 ≤ a1) (A1 : Exa Z h0 a1 "java/lang/String") (F1 : Fld Z h0 a1 "java/lang/String" "value" "[B" .null) (F2 : Fld Z h0 a1 "java/lang/String" "coder" "B" (.int (0 : Int32))) :
    own_MetW l Z own_EL (⟨"java/lang/String", "<init>", "([CIILjava/lang/Void;)V"⟩ : MethodName) jdk_42_method_149_code 6 none ({ frames := 1, cells := 4, slots := 8, locals := 12 } : Room) #[(.ref a1), (.ref a2), (.int (0 : Int32)), (.int (0 : Int32)), .null] h0 (fun v h L => v = none ∧ Fr n0 L ∧ Keep h0 h [a1] ∧ own_Str Z h a1 []) := by
  refine own_bodyW (plainFor_of_name (by first | (simp [plainName, overriddenIn]; done) | decide +kernel)) ?_
  intro p e s m below meth c s₁ vm0 hx hby hml hown hnm hlk hrt hZ hZ0 SN CH X0 e0
  refine own_enter (ef_rm_str0v m a1 a2 (0 : Int32) (0 : Int32)) ?_
  have N0 := Fr.nil n0
  have lta1 := A1.lt
  have SF0 : Safe Z own_EL s.vm h0 a1 := own_safe_null hZ0.alike A1 F1 (ow_31 hw)
  have K0 := Keep.refl h0 [a1]
  refine own_aloadN X0 hx hby od_jdk_42_method_149_0 (pc' := 1) rfl rfl rfl ?_
  refine own_initO X0 hx hby hZ hml hown (ow_41 hw) (ow_15 hw) (ow_16 hw) e0 rfl od_jdk_42_method_149_1 (pc' := 4) rfl (by decide) (W := 0) (Nat.le_refl _) (by decide) ?_
  intro T1 X1 e1
  refine own_iloadN X1 hx hby od_jdk_42_method_149_4 (pc' := 5) rfl rfl ?_
  refine own_ifN X1 hx hby od_jdk_42_method_149_5 (pc' := 8) rfl (teq rfl).2 ?_
  refine own_aloadN X1 hx hby od_jdk_42_method_149_8 (pc' := 9) rfl rfl rfl ?_
  refine own_ldcC X1 hx hby hZ hown SN CH (own_ew hw) (own_ws hw) (ow_42 hw) e1 od_jdk_42_method_149_9 (pc' := 11) rfl (n := 0) (by decide) (by decide) (by decide) (by decide) (by decide) [] ⟨by decide, by decide⟩ (by decide) (by decide) (by decide) ?_
  intro T2 vm2 h2 q2 X2 e2 hZ hown SN2 CH2 E2 S_q2
  have K3 := K0.ext E2
  have A_q2 := S_q2.exa
  replace A1 := A1.ext E2
  replace F1 := F1.ext E2
  replace F2 := F2.ext E2
  obtain ⟨_, Cq, _, tq, kq, Vq, Kq⟩ := S_q2
  have neq : q2 ≠ a1 := Fld.ne Vq F1 (by simp)
  have net : tq ≠ a1 := (Exa.neArv A1 Kq (ow_31 hw)).symm
  refine own_getF X2 hx hby hZ hown (host := "") (Or.inl (ow_48 hw)) Via.refl e2 Vq od_jdk_42_method_149_11 (pc' := 14) rfl ?_
  intro T4 X4 e4
  refine own_putF X4 hx hby hZ hown (host := "") (Or.inl (ow_48 hw)) Via.refl e4 F1 A1 (Or.inr ⟨(ow_44 hw), rfl, hnm⟩) (ow_31 hw) (ty := (.array .byte)) (by decide) rfl rfl od_jdk_42_method_149_14 (pc' := 17) rfl ?_
  intro T5 h5 X5 e5 W5 F5_value_a1 A5_a1
  have Fw5_6 := F2.other W5 (Or.inr (slot_ne (Or.inr (ow_45 hw)) (Or.inr (ow_44 hw)) (by decide) (t := .byte) (t' := (.array .byte)) (by decide) (by decide)))
  have Fw5_7 := SN2.wr W5
  have Fw5_8 := CH2.wr W5 (CHr.safe CH2 lta1 SF0)
  have Fw5_9 := A_q2.wr W5
  have Fw5_10 := Vq.other W5 (Or.inl neq)
  have Fw5_11 := Kq.other W5 net
  have K12 := K3.wr W5 (Or.inl (List.mem_of_getElem? (i := 0) rfl))
  have N5 := own_fr1 (sl := Jvm.RoadKit.slotOf Z "java/lang/String" "value" "[B") N0 n0_a1
  refine own_aloadN X5 hx hby od_jdk_42_method_149_17 (pc' := 18) rfl rfl rfl ?_
  refine own_ldcC X5 hx hby hZ hown Fw5_7 Fw5_8 (own_ew hw) (own_ws hw) (ow_42 hw) e5 od_jdk_42_method_149_18 (pc' := 20) rfl (n := 0) (by decide) (by decide) (by decide) (by decide) (by decide) [] ⟨by decide, by decide⟩ (by decide) (by decide) (by decide) ?_
  intro T13 vm13 h13 q13 X13 e13 hZ hown SN13 CH13 E13 S_q13
  have K14 := K12.ext E13
  have A_q13 := S_q13.exa
  replace F5_value_a1 := F5_value_a1.ext E13
  replace A5_a1 := A5_a1.ext E13
  replace Fw5_6 := Fw5_6.ext E13
  replace Fw5_9 := Fw5_9.ext E13
  replace Fw5_10 := Fw5_10.ext E13
  replace Fw5_11 := Fw5_11.ext E13
  obtain ⟨_, Cq2, _⟩ := S_q13
  refine own_getF X13 hx hby hZ hown (host := "") (Or.inl (ow_49 hw)) Via.refl e13 Cq2 od_jdk_42_method_149_20 (pc' := 23) rfl ?_
  intro T15 X15 e15
  refine own_putFN X15 hx hby hZ hown (ow_49 hw) Via.refl e15 Fw5_6 A5_a1 (Or.inr ⟨(ow_45 hw), rfl, hnm⟩) (ow_31 hw) (ty := .byte) (v' := (.int (0 : Int32))) (by decide) rfl rfl od_jdk_42_method_149_23 (pc' := 26) rfl ?_
  intro T16 h16 X16 e16 W16 F16_coder_a1 A16_a1
  have Fw16_17 := F5_value_a1.other W16 (Or.inr (slot_ne (Or.inr (ow_44 hw)) (Or.inr (ow_45 hw)) (by decide) (t := (.array .byte)) (t' := .byte) (by decide) (by decide)))
  have Fw16_18 := Fw5_9.wr W16
  have Fw16_19 := Fw5_10.other W16 (Or.inl neq)
  have Fw16_20 := Fw5_11.other W16 net
  have Fw16_21 := SN13.wr W16
  have Fw16_22 := CH13.wr W16 (CHr.safe CH13 lta1 SF0)
  have Fw16_23 := A_q13.wr W16
  have K24 := K14.wr W16 (Or.inl (List.mem_of_getElem? (i := 0) rfl))
  have N16 := own_fr1 (sl := Jvm.RoadKit.slotOf Z "java/lang/String" "coder" "B") N5 n0_a1
  exact own_ret0W X16 hx hby hZ (own_ew hw) e16 Fw16_21 Fw16_22 hlk hrt od_jdk_42_method_149_26 ⟨rfl, N16, K24, A16_a1, F16_coder_a1, (fun c hc => by cases hc), tq, kq, Fw16_17, Fw16_20⟩ (by decide) (by decide)
theorem ef_rm_str0 (m : MethodId) (x0 : Addr) (x1 : Addr) : entryFrame m #[(.ref x0), (.ref x1)] 2 = mkF m 0 #[.val (.ref x0), .val (.ref x1)] [] := by first | (simp [entryFrame, mkF, argsToLocals, Value.category]; done) | rfl
set_option maxRecDepth 65536 in
set_option maxHeartbeats 40000000 in
theorem rm_str0 (l : Launch) (Z : State) (a0 : Array Value) (hw : ∀ d ∈ tables_1, d.before a0 Z = true) (a1 a2 : Addr) (kc : ClassId) (h0 : Heap) (n0 : Nat) (Z0 : n0 ≤ h0.size) (n0_a1 : n0 ≤ a1) (A1 : Exa Z h0 a1 "java/lang/String") (F1 : Fld Z h0 a1 "java/lang/String" "value" "[B" .null) (F2 : Fld Z h0 a1 "java/lang/String" "coder" "B" (.int (0 : Int32))) (V2 : Arv Z h0 a2 kc .char (0 : Int32) [] (.int (0 : Int32))) :
    own_MetW l Z own_EL (⟨"java/lang/String", "<init>", "([C)V"⟩ : MethodName) jdk_42_method_3_code 2 none ({ frames := 2, cells := 4, slots := 8, locals := 29 } : Room) #[(.ref a1), (.ref a2)] h0 (fun v h L => v = none ∧ Fr n0 L ∧ Keep h0 h [a1] ∧ own_Str Z h a1 []) := by
  refine own_bodyW (plainFor_of_name (by first | (simp [plainName, overriddenIn]; done) | decide +kernel)) ?_
  intro p e s m below meth c s₁ vm0 hx hby hml hown hnm hlk hrt hZ hZ0 SN CH X0 e0
  refine own_enter (ef_rm_str0 m a1 a2) ?_
  have N0 := Fr.nil n0
  have lta1 := A1.lt
  have SF0 : Safe Z own_EL s.vm h0 a1 := own_safe_null hZ0.alike A1 F1 (ow_31 hw)
  have K0 := Keep.refl h0 [a1]
  refine own_aloadN X0 hx hby od_jdk_42_method_3_0 (pc' := 1) rfl rfl rfl ?_
  refine own_aloadN X0 hx hby od_jdk_42_method_3_1 (pc' := 2) rfl rfl rfl ?_
  refine own_iconst X0 hx hby od_jdk_42_method_3_2 (pc' := 3) rfl (z := 0) rfl ?_
  refine own_aloadN X0 hx hby od_jdk_42_method_3_3 (pc' := 4) rfl rfl rfl ?_
  refine own_alenV X0 hx hby hZ e0 V2 od_jdk_42_method_3_4 (pc' := 5) rfl ?_
  refine own_aconst_null X0 hx hby od_jdk_42_method_3_5 (pc' := 6) rfl ?_
  refine own_specMW X0 hx hby hml hZ hown SN CH rfl (ow_37 hw) (ow_38 hw) (ow_32 hw) (ow_40 hw) (by decide) (cc := 4) (ss := 8) (own_ew hw) (rm_str0v l Z a0 hw a1 a2 h0 n0 (Nat.le_trans Z0 K0.1) n0_a1 A1 F1 F2) 0 rfl rfl (by decide) (by decide) rfl (argsL := [(.ref a2), (.int (0 : Int32)), (.int (0 : Int32)), .null]) (rest := []) opd_3 rfl rfl (Nat.le_refl _) od_jdk_42_method_3_6 (pc' := 9) rfl rfl e0 (by decide) (by decide) ?_
  rintro v1 T1 vm1 h1 L1 X1 e1 hZ hown SN1 CH1 gr1 ⟨rfl, Nq1, Kq1, Sq⟩
  have N1 := N0.app Nq1
  have K2 := K0.trans Kq1 (allS (Or.inl (List.mem_of_getElem? (i := 0) rfl)) all0)
  exact own_ret0W X1 hx hby hZ (own_ew hw) e1 SN1 CH1 hlk hrt od_jdk_42_method_3_9 ⟨rfl, N1, K2, Sq⟩ (by decide) (by decide)
theorem ef_rm_rec (m : MethodId) (x0 : Addr) : entryFrame m #[(.ref x0)] 1 = mkF m 0 #[.val (.ref x0)] [] := by first | (simp [entryFrame, mkF, argsToLocals, Value.category]; done) | rfl
set_option maxRecDepth 65536 in
set_option maxHeartbeats 40000000 in
theorem rm_rec (l : Launch) (Z : State) (a0 : Array Value) (hw : ∀ d ∈ tables_1, d.before a0 Z = true) (a1 : Addr) (h0 : Heap) (n0 : Nat) (Z0 : n0 ≤ h0.size) :
    own_Met l Z (⟨"java/lang/Record", "<init>", "()V"⟩ : MethodName) jdk_30_method_1_code 1 none ({ frames := 1, cells := 0, slots := 0, locals := 12 } : Room) #[(.ref a1)] h0 (fun v h L => v = none ∧ Fr n0 L ∧ h0 = h) := by
  refine own_body (plainFor_of_name (by first | (simp [plainName, overriddenIn]; done) | decide +kernel)) ?_
  intro p e s m below meth c s₁ hx hby hml hown hnm hlk hrt hZ X0 e0
  refine own_enter (ef_rm_rec m a1) ?_
  have N0 := Fr.nil n0
  refine own_aloadN X0 hx hby od_jdk_30_method_1_0 (pc' := 1) rfl rfl rfl ?_
  refine own_initO X0 hx hby hZ hml hown (ow_14 hw) (ow_15 hw) (ow_16 hw) e0 rfl od_jdk_30_method_1_1 (pc' := 4) rfl (by decide) (W := 0) (Nat.le_refl _) (by decide) ?_
  intro T1 X1 e1
  exact own_ret0 X1 hx hby hlk hrt od_jdk_30_method_1_4 (by first | exact ⟨rfl, N0, rfl⟩ | (rw [e1]; exact ⟨rfl, N0, rfl⟩)) (by decide) (by decide)
theorem ef_rm_max (m : MethodId) (x0 : Int32) (x1 : Int32) : entryFrame m #[(.int x0), (.int x1)] 2 = mkF m 0 #[.val (.int x0), .val (.int x1)] [] := by first | (simp [entryFrame, mkF, argsToLocals, Value.category]; done) | rfl
set_option maxRecDepth 65536 in
set_option maxHeartbeats 40000000 in
theorem rm_max (l : Launch) (Z : State) (a0 : Array Value) (hw : ∀ d ∈ tables_1, d.before a0 Z = true) (p2 : Int32) (h0 : Heap) (n0 : Nat) (Z0 : n0 ≤ h0.size) :
    own_Met l Z (⟨"java/lang/Math", "max", "(II)I"⟩ : MethodName) jdk_29_method_65_code 2 (some .int) ({ frames := 0, cells := 0, slots := 0, locals := 0 } : Room) #[(.int (1 : Int32)), (.int p2)] h0 (fun v h L => ∃ r : Int32, v = some (.int r) ∧ ¬ (r < (1 : Int32)) ∧ Fr n0 L ∧ h0 = h) := by
  refine own_body (Jvm.Free.JP.mathPlain rfl (by decide +kernel)) ?_
  intro p e s m below meth c s₁ hx hby hml hown hnm hlk hrt hZ X0 e0
  refine own_enter (ef_rm_max m (1 : Int32) p2) ?_
  have N0 := Fr.nil n0
  refine own_iloadN X0 hx hby od_jdk_29_method_65_0 (pc' := 1) rfl rfl ?_
  refine own_iloadN X0 hx hby od_jdk_29_method_65_1 (pc' := 2) rfl rfl ?_
  by_cases hc : (1 : Int32) < p2
  · refine own_icmpY X0 hx hby od_jdk_29_method_65_2 (by decide) (pc' := 9) (by decide) (tlt hc).1 ?_
    refine own_iloadN X0 hx hby od_jdk_29_method_65_9 (pc' := 10) rfl rfl ?_
    exact own_retI X0 hx hby hlk hrt od_jdk_29_method_65_10 (by first | exact ⟨_, rfl, own_max1 hc, N0, rfl⟩ | (rw [e0]; exact ⟨_, rfl, own_max1 hc, N0, rfl⟩)) (by decide) (by decide)
  · refine own_icmpN X0 hx hby od_jdk_29_method_65_2 (pc' := 5) rfl (flt hc).1 ?_
    refine own_iloadN X0 hx hby od_jdk_29_method_65_5 (pc' := 6) rfl rfl ?_
    refine own_goto X0 hx hby od_jdk_29_method_65_6 (by decide) (pc' := 10) (by decide) ?_
    exact own_retI X0 hx hby hlk hrt od_jdk_29_method_65_10 (by first | exact ⟨_, rfl, (by decide), N0, rfl⟩ | (rw [e0]; exact ⟨_, rfl, (by decide), N0, rfl⟩)) (by decide) (by decide)
theorem ef_rm_take (m : MethodId) (x0 : Addr) (x1 : Int32) (x2 : Int32) : entryFrame m #[(.ref x0), (.int x1), (.int x2)] 3 = mkF m 0 #[.val (.ref x0), .val (.int x1), .val (.int x2)] [] := by first | (simp [entryFrame, mkF, argsToLocals, Value.category]; done) | rfl
set_option maxRecDepth 65536 in
set_option maxHeartbeats 40000000 in
theorem rm_take (l : Launch) (Z : State) (a0 : Array Value) (hw : ∀ d ∈ tables_1, d.before a0 Z = true) (a1 : Addr) (pz p2 : Int32) (h0 : Heap) (n0 : Nat) (Z0 : n0 ≤ h0.size) (hpz : nar .boolean pz = pz) (hp2 : ¬ (p2 < (1 : Int32))) (n0_a1 : n0 ≤ a1) (A1 : Exa Z h0 a1 "com/example/kindred/kindred/matching/Preparation$Take") (F_fromEnd : Fld Z h0 a1 "com/example/kindred/kindred/matching/Preparation$Take" "fromEnd" "Z" (.int (0 : Int32))) (F_count : Fld Z h0 a1 "com/example/kindred/kindred/matching/Preparation$Take" "count" "I" (.int (0 : Int32))) :
    own_Met l Z (⟨"com/example/kindred/kindred/matching/Preparation$Take", "<init>", "(ZI)V"⟩ : MethodName) prog_21_method_1_code 3 none ({ frames := 2, cells := 0, slots := 0, locals := 24 } : Room) #[(.ref a1), (.int pz), (.int p2)] h0 (fun v h L => v = none ∧ Fr n0 L ∧ Keep h0 h [a1] ∧ Exa Z h a1 "com/example/kindred/kindred/matching/Preparation$Take" ∧ Fld Z h a1 "com/example/kindred/kindred/matching/Preparation$Take" "fromEnd" "Z" (.int pz) ∧ Fld Z h a1 "com/example/kindred/kindred/matching/Preparation$Take" "count" "I" (.int p2)) := by
  refine own_body (plainFor_of_name (by first | (simp [plainName, overriddenIn]; done) | decide +kernel)) ?_
  intro p e s m below meth c s₁ hx hby hml hown hnm hlk hrt hZ X0 e0
  refine own_enter (ef_rm_take m a1 pz p2) ?_
  have N0 := Fr.nil n0
  have K0 := Keep.refl h0 [a1]
  refine own_aloadN X0 hx hby od_prog_21_method_1_0 (pc' := 1) rfl rfl rfl ?_
  refine own_specM X0 hx hby hml hZ hown rfl (ow_63 hw) (ow_10 hw) (ow_12 hw) (ow_13 hw) (by decide) (cc := 0) (ss := 0) (rm_rec l Z a0 hw a1 h0 n0 Z0) 0 rfl rfl (by decide) (by decide) rfl (argsL := []) (rest := []) opd_4 rfl rfl (Nat.le_refl _) od_prog_21_method_1_1 (pc' := 4) rfl rfl e0 (by decide) (by decide) ?_
  rintro v1 T1 h1 L1 X1 e1 ⟨rfl, Nq1, rfl⟩
  have N1 := N0.app Nq1
  refine own_iloadN X1 hx hby od_prog_21_method_1_4 (pc' := 5) rfl rfl ?_
  refine own_iconst X1 hx hby od_prog_21_method_1_5 (pc' := 6) rfl (z := 1) rfl ?_
  refine own_icmpY X1 hx hby od_prog_21_method_1_6 (by decide) (pc' := 23) (by decide) (flt hp2).2.1 ?_
  refine own_aloadN X1 hx hby od_prog_21_method_1_23 (pc' := 24) rfl rfl rfl ?_
  refine own_iloadN X1 hx hby od_prog_21_method_1_24 (pc' := 25) rfl rfl ?_
  refine own_putFN X1 hx hby hZ hown (ow_64 hw) Via.refl e1 F_fromEnd A1 (Or.inr ⟨(ow_65 hw), rfl, hnm⟩) (ow_53 hw) (ty := .boolean) (v' := (.int (nar .boolean pz))) (by decide) rfl (fits_nar_bool _) od_prog_21_method_1_25 (pc' := 28) rfl ?_
  intro T2 h2 X2 e2 W2 F2_fromEnd_a1 A2_a1
  have Fw2_3 := F_count.other W2 (Or.inr (slot_ne (Or.inr (ow_67 hw)) (Or.inr (ow_65 hw)) (by decide) (t := .int) (t' := .boolean) (by decide) (by decide)))
  have K4 := K0.wr W2 (Or.inl (List.mem_of_getElem? (i := 0) rfl))
  have N2 := own_fr1 (sl := Jvm.RoadKit.slotOf Z "com/example/kindred/kindred/matching/Preparation$Take" "fromEnd" "Z") N1 n0_a1
  refine own_aloadN X2 hx hby od_prog_21_method_1_28 (pc' := 29) rfl rfl rfl ?_
  refine own_iloadN X2 hx hby od_prog_21_method_1_29 (pc' := 30) rfl rfl ?_
  refine own_putF X2 hx hby hZ hown (host := "") (Or.inl (ow_66 hw)) Via.refl e2 Fw2_3 A2_a1 (Or.inr ⟨(ow_67 hw), rfl, hnm⟩) (ow_53 hw) (ty := .int) (by decide) rfl rfl od_prog_21_method_1_30 (pc' := 33) rfl ?_
  intro T5 h5 X5 e5 W5 F5_count_a1 A5_a1
  have Fw5_6 := F2_fromEnd_a1.other W5 (Or.inr (slot_ne (Or.inr (ow_65 hw)) (Or.inr (ow_67 hw)) (by decide) (t := .boolean) (t' := .int) (by decide) (by decide)))
  have K7 := K4.wr W5 (Or.inl (List.mem_of_getElem? (i := 0) rfl))
  have N5 := own_fr1 (sl := Jvm.RoadKit.slotOf Z "com/example/kindred/kindred/matching/Preparation$Take" "count" "I") N2 n0_a1
  rw [hpz] at Fw5_6
  exact own_ret0 X5 hx hby hlk hrt od_prog_21_method_1_33 (by first | exact ⟨rfl, N5, K7, A5_a1, Fw5_6, F5_count_a1⟩ | (rw [e5]; exact ⟨rfl, N5, K7, A5_a1, Fw5_6, F5_count_a1⟩)) (by decide) (by decide)
theorem ef_rm_prepNN (m : MethodId) (x0 : Addr) (x1 : Int32) (x3 : Addr) : entryFrame m #[(.ref x0), (.int x1), .null, (.ref x3), .null] 5 = mkF m 0 #[.val (.ref x0), .val (.int x1), .val .null, .val (.ref x3), .val .null] [] := by first | (simp [entryFrame, mkF, argsToLocals, Value.category]; done) | rfl
set_option maxRecDepth 65536 in
set_option maxHeartbeats 40000000 in
theorem rm_prepNN (l : Launch) (Z : State) (a0 : Array Value) (hw : ∀ d ∈ tables_1, d.before a0 Z = true) (a1 : Addr) (pz : Int32) (lx : Addr) (h0 : Heap) (n0 : Nat) (Z0 : n0 ≤ h0.size) (hpz : nar .boolean pz = pz) (n0_a1 : n0 ≤ a1) (A1 : Exa Z h0 a1 "com/example/kindred/kindred/matching/Preparation") (F_removeSpaces : Fld Z h0 a1 "com/example/kindred/kindred/matching/Preparation" "removeSpaces" "Z" (.int (0 : Int32))) (F_keep : Fld Z h0 a1 "com/example/kindred/kindred/matching/Preparation" "keep" "Ljava/lang/String;" .null) (F_letterCase : Fld Z h0 a1 "com/example/kindred/kindred/matching/Preparation" "letterCase" "Lcom/example/kindred/kindred/matching/Preparation$LetterCase;" .null) (F_take : Fld Z h0 a1 "com/example/kindred/kindred/matching/Preparation" "take" "Lcom/example/kindred/kindred/matching/Preparation$Take;" .null) :
    own_Met l Z (⟨"com/example/kindred/kindred/matching/Preparation", "<init>", "(ZLjava/lang/String;Lcom/example/kindred/kindred/matching/Preparation$LetterCase;Lcom/example/kindred/kindred/matching/Preparation$Take;)V"⟩ : MethodName) prog_19_method_1_code 5 none ({ frames := 2, cells := 0, slots := 0, locals := 24 } : Room) #[(.ref a1), (.int pz), .null, (.ref lx), .null] h0 (fun v h L => v = none ∧ Fr n0 L ∧ Keep h0 h [a1] ∧ Exa Z h a1 "com/example/kindred/kindred/matching/Preparation" ∧ Fld Z h a1 "com/example/kindred/kindred/matching/Preparation" "removeSpaces" "Z" (.int pz) ∧ Fld Z h a1 "com/example/kindred/kindred/matching/Preparation" "keep" "Ljava/lang/String;" .null ∧ Fld Z h a1 "com/example/kindred/kindred/matching/Preparation" "letterCase" "Lcom/example/kindred/kindred/matching/Preparation$LetterCase;" (.ref lx) ∧ Fld Z h a1 "com/example/kindred/kindred/matching/Preparation" "take" "Lcom/example/kindred/kindred/matching/Preparation$Take;" .null) := by
  refine own_body (plainFor_of_name (by first | (simp [plainName, overriddenIn]; done) | decide +kernel)) ?_
  intro p e s m below meth c s₁ hx hby hml hown hnm hlk hrt hZ X0 e0
  refine own_enter (ef_rm_prepNN m a1 pz lx) ?_
  have N0 := Fr.nil n0
  have K0 := Keep.refl h0 [a1]
  refine own_aloadN X0 hx hby od_prog_19_method_1_0 (pc' := 1) rfl rfl rfl ?_
  refine own_specM X0 hx hby hml hZ hown rfl (ow_9 hw) (ow_10 hw) (ow_12 hw) (ow_13 hw) (by decide) (cc := 0) (ss := 0) (rm_rec l Z a0 hw a1 h0 n0 Z0) 0 rfl rfl (by decide) (by decide) rfl (argsL := []) (rest := []) opd_4 rfl rfl (Nat.le_refl _) od_prog_19_method_1_1 (pc' := 4) rfl rfl e0 (by decide) (by decide) ?_
  rintro v1 T1 h1 L1 X1 e1 ⟨rfl, Nq1, rfl⟩
  have N1 := N0.app Nq1
  refine own_aloadN X1 hx hby od_prog_19_method_1_4 (pc' := 5) rfl rfl rfl ?_
  refine own_iloadN X1 hx hby od_prog_19_method_1_5 (pc' := 6) rfl rfl ?_
  refine own_putFN X1 hx hby hZ hown (ow_17 hw) Via.refl e1 F_removeSpaces A1 (Or.inr ⟨(ow_18 hw), rfl, hnm⟩) (ow_4 hw) (ty := .boolean) (v' := (.int (nar .boolean pz))) (by decide) rfl (fits_nar_bool _) od_prog_19_method_1_6 (pc' := 9) rfl ?_
  intro T2 h2 X2 e2 W2 F2_removeSpaces_a1 A2_a1
  have Fw2_3 := F_keep.other W2 (Or.inr (slot_ne (Or.inr (ow_20 hw)) (Or.inr (ow_18 hw)) (by decide) (t := (.object "java/lang/String")) (t' := .boolean) (by decide) (by decide)))
  have Fw2_4 := F_letterCase.other W2 (Or.inr (slot_ne (Or.inr (ow_22 hw)) (Or.inr (ow_18 hw)) (by decide) (t := (.object "com/example/kindred/kindred/matching/Preparation$LetterCase")) (t' := .boolean) (by decide) (by decide)))
  have Fw2_5 := F_take.other W2 (Or.inr (slot_ne (Or.inr (ow_24 hw)) (Or.inr (ow_18 hw)) (by decide) (t := (.object "com/example/kindred/kindred/matching/Preparation$Take")) (t' := .boolean) (by decide) (by decide)))
  have K6 := K0.wr W2 (Or.inl (List.mem_of_getElem? (i := 0) rfl))
  have N2 := own_fr1 (sl := Jvm.RoadKit.slotOf Z "com/example/kindred/kindred/matching/Preparation" "removeSpaces" "Z") N1 n0_a1
  refine own_aloadN X2 hx hby od_prog_19_method_1_9 (pc' := 10) rfl rfl rfl ?_
  refine own_aloadN X2 hx hby od_prog_19_method_1_10 (pc' := 11) rfl rfl rfl ?_
  refine own_putF X2 hx hby hZ hown (host := "") (Or.inl (ow_19 hw)) Via.refl e2 Fw2_3 A2_a1 (Or.inr ⟨(ow_20 hw), rfl, hnm⟩) (ow_4 hw) (ty := (.object "java/lang/String")) (by decide) rfl rfl od_prog_19_method_1_11 (pc' := 14) rfl ?_
  intro T7 h7 X7 e7 W7 F7_keep_a1 A7_a1
  have Fw7_8 := F2_removeSpaces_a1.other W7 (Or.inr (slot_ne (Or.inr (ow_18 hw)) (Or.inr (ow_20 hw)) (by decide) (t := .boolean) (t' := (.object "java/lang/String")) (by decide) (by decide)))
  have Fw7_9 := Fw2_4.other W7 (Or.inr (slot_ne (Or.inr (ow_22 hw)) (Or.inr (ow_20 hw)) (by decide) (t := (.object "com/example/kindred/kindred/matching/Preparation$LetterCase")) (t' := (.object "java/lang/String")) (by decide) (by decide)))
  have Fw7_10 := Fw2_5.other W7 (Or.inr (slot_ne (Or.inr (ow_24 hw)) (Or.inr (ow_20 hw)) (by decide) (t := (.object "com/example/kindred/kindred/matching/Preparation$Take")) (t' := (.object "java/lang/String")) (by decide) (by decide)))
  have K11 := K6.wr W7 (Or.inl (List.mem_of_getElem? (i := 0) rfl))
  have N7 := own_fr1 (sl := Jvm.RoadKit.slotOf Z "com/example/kindred/kindred/matching/Preparation" "keep" "Ljava/lang/String;") N2 n0_a1
  refine own_aloadN X7 hx hby od_prog_19_method_1_14 (pc' := 15) rfl rfl rfl ?_
  refine own_aloadN X7 hx hby od_prog_19_method_1_15 (pc' := 16) rfl rfl rfl ?_
  refine own_putF X7 hx hby hZ hown (host := "") (Or.inl (ow_21 hw)) Via.refl e7 Fw7_9 A7_a1 (Or.inr ⟨(ow_22 hw), rfl, hnm⟩) (ow_4 hw) (ty := (.object "com/example/kindred/kindred/matching/Preparation$LetterCase")) (by decide) rfl rfl od_prog_19_method_1_16 (pc' := 19) rfl ?_
  intro T12 h12 X12 e12 W12 F12_letterCase_a1 A12_a1
  have Fw12_13 := F7_keep_a1.other W12 (Or.inr (slot_ne (Or.inr (ow_20 hw)) (Or.inr (ow_22 hw)) (by decide) (t := (.object "java/lang/String")) (t' := (.object "com/example/kindred/kindred/matching/Preparation$LetterCase")) (by decide) (by decide)))
  have Fw12_14 := Fw7_8.other W12 (Or.inr (slot_ne (Or.inr (ow_18 hw)) (Or.inr (ow_22 hw)) (by decide) (t := .boolean) (t' := (.object "com/example/kindred/kindred/matching/Preparation$LetterCase")) (by decide) (by decide)))
  have Fw12_15 := Fw7_10.other W12 (Or.inr (slot_ne (Or.inr (ow_24 hw)) (Or.inr (ow_22 hw)) (by decide) (t := (.object "com/example/kindred/kindred/matching/Preparation$Take")) (t' := (.object "com/example/kindred/kindred/matching/Preparation$LetterCase")) (by decide) (by decide)))
  have K16 := K11.wr W12 (Or.inl (List.mem_of_getElem? (i := 0) rfl))
  have N12 := own_fr1 (sl := Jvm.RoadKit.slotOf Z "com/example/kindred/kindred/matching/Preparation" "letterCase" "Lcom/example/kindred/kindred/matching/Preparation$LetterCase;") N7 n0_a1
  refine own_aloadN X12 hx hby od_prog_19_method_1_19 (pc' := 20) rfl rfl rfl ?_
  refine own_aload X12 hx hby od_prog_19_method_1_20 (pc' := 22) rfl rfl rfl ?_
  refine own_putF X12 hx hby hZ hown (host := "") (Or.inl (ow_23 hw)) Via.refl e12 Fw12_15 A12_a1 (Or.inr ⟨(ow_24 hw), rfl, hnm⟩) (ow_4 hw) (ty := (.object "com/example/kindred/kindred/matching/Preparation$Take")) (by decide) rfl rfl od_prog_19_method_1_22 (pc' := 25) rfl ?_
  intro T17 h17 X17 e17 W17 F17_take_a1 A17_a1
  have Fw17_18 := F12_letterCase_a1.other W17 (Or.inr (slot_ne (Or.inr (ow_22 hw)) (Or.inr (ow_24 hw)) (by decide) (t := (.object "com/example/kindred/kindred/matching/Preparation$LetterCase")) (t' := (.object "com/example/kindred/kindred/matching/Preparation$Take")) (by decide) (by decide)))
  have Fw17_19 := Fw12_13.other W17 (Or.inr (slot_ne (Or.inr (ow_20 hw)) (Or.inr (ow_24 hw)) (by decide) (t := (.object "java/lang/String")) (t' := (.object "com/example/kindred/kindred/matching/Preparation$Take")) (by decide) (by decide)))
  have Fw17_20 := Fw12_14.other W17 (Or.inr (slot_ne (Or.inr (ow_18 hw)) (Or.inr (ow_24 hw)) (by decide) (t := .boolean) (t' := (.object "com/example/kindred/kindred/matching/Preparation$Take")) (by decide) (by decide)))
  have K21 := K16.wr W17 (Or.inl (List.mem_of_getElem? (i := 0) rfl))
  have N17 := own_fr1 (sl := Jvm.RoadKit.slotOf Z "com/example/kindred/kindred/matching/Preparation" "take" "Lcom/example/kindred/kindred/matching/Preparation$Take;") N12 n0_a1
  rw [hpz] at Fw17_20
  exact own_ret0 X17 hx hby hlk hrt od_prog_19_method_1_25 (by first | exact ⟨rfl, N17, K21, A17_a1, Fw17_20, Fw17_19, Fw17_18, F17_take_a1⟩ | (rw [e17]; exact ⟨rfl, N17, K21, A17_a1, Fw17_20, Fw17_19, Fw17_18, F17_take_a1⟩)) (by decide) (by decide)
theorem ef_rm_prepNR (m : MethodId) (x0 : Addr) (x1 : Int32) (x3 : Addr) (x4 : Addr) : entryFrame m #[(.ref x0), (.int x1), .null, (.ref x3), (.ref x4)] 5 = mkF m 0 #[.val (.ref x0), .val (.int x1), .val .null, .val (.ref x3), .val (.ref x4)] [] := by first | (simp [entryFrame, mkF, argsToLocals, Value.category]; done) | rfl
set_option maxRecDepth 65536 in
set_option maxHeartbeats 40000000 in
theorem rm_prepNR (l : Launch) (Z : State) (a0 : Array Value) (hw : ∀ d ∈ tables_1, d.before a0 Z = true) (a1 : Addr) (pz : Int32) (lx ta : Addr) (h0 : Heap) (n0 : Nat) (Z0 : n0 ≤ h0.size) (hpz : nar .boolean pz = pz) (n0_a1 : n0 ≤ a1) (A1 : Exa Z h0 a1 "com/example/kindred/kindred/matching/Preparation") (F_removeSpaces : Fld Z h0 a1 "com/example/kindred/kindred/matching/Preparation" "removeSpaces" "Z" (.int (0 : Int32))) (F_keep : Fld Z h0 a1 "com/example/kindred/kindred/matching/Preparation" "keep" "Ljava/lang/String;" .null) (F_letterCase : Fld Z h0 a1 "com/example/kindred/kindred/matching/Preparation" "letterCase" "Lcom/example/kindred/kindred/matching/Preparation$LetterCase;" .null) (F_take : Fld Z h0 a1 "com/example/kindred/kindred/matching/Preparation" "take" "Lcom/example/kindred/kindred/matching/Preparation$Take;" .null) :
    own_Met l Z (⟨"com/example/kindred/kindred/matching/Preparation", "<init>", "(ZLjava/lang/String;Lcom/example/kindred/kindred/matching/Preparation$LetterCase;Lcom/example/kindred/kindred/matching/Preparation$Take;)V"⟩ : MethodName) prog_19_method_1_code 5 none ({ frames := 2, cells := 0, slots := 0, locals := 24 } : Room) #[(.ref a1), (.int pz), .null, (.ref lx), (.ref ta)] h0 (fun v h L => v = none ∧ Fr n0 L ∧ Keep h0 h [a1] ∧ Exa Z h a1 "com/example/kindred/kindred/matching/Preparation" ∧ Fld Z h a1 "com/example/kindred/kindred/matching/Preparation" "removeSpaces" "Z" (.int pz) ∧ Fld Z h a1 "com/example/kindred/kindred/matching/Preparation" "keep" "Ljava/lang/String;" .null ∧ Fld Z h a1 "com/example/kindred/kindred/matching/Preparation" "letterCase" "Lcom/example/kindred/kindred/matching/Preparation$LetterCase;" (.ref lx) ∧ Fld Z h a1 "com/example/kindred/kindred/matching/Preparation" "take" "Lcom/example/kindred/kindred/matching/Preparation$Take;" (.ref ta)) := by
  refine own_body (plainFor_of_name (by first | (simp [plainName, overriddenIn]; done) | decide +kernel)) ?_
  intro p e s m below meth c s₁ hx hby hml hown hnm hlk hrt hZ X0 e0
  refine own_enter (ef_rm_prepNR m a1 pz lx ta) ?_
  have N0 := Fr.nil n0
  have K0 := Keep.refl h0 [a1]
  refine own_aloadN X0 hx hby od_prog_19_method_1_0 (pc' := 1) rfl rfl rfl ?_
  refine own_specM X0 hx hby hml hZ hown rfl (ow_9 hw) (ow_10 hw) (ow_12 hw) (ow_13 hw) (by decide) (cc := 0) (ss := 0) (rm_rec l Z a0 hw a1 h0 n0 Z0) 0 rfl rfl (by decide) (by decide) rfl (argsL := []) (rest := []) opd_4 rfl rfl (Nat.le_refl _) od_prog_19_method_1_1 (pc' := 4) rfl rfl e0 (by decide) (by decide) ?_
  rintro v1 T1 h1 L1 X1 e1 ⟨rfl, Nq1, rfl⟩
  have N1 := N0.app Nq1
  refine own_aloadN X1 hx hby od_prog_19_method_1_4 (pc' := 5) rfl rfl rfl ?_
  refine own_iloadN X1 hx hby od_prog_19_method_1_5 (pc' := 6) rfl rfl ?_
  refine own_putFN X1 hx hby hZ hown (ow_17 hw) Via.refl e1 F_removeSpaces A1 (Or.inr ⟨(ow_18 hw), rfl, hnm⟩) (ow_4 hw) (ty := .boolean) (v' := (.int (nar .boolean pz))) (by decide) rfl (fits_nar_bool _) od_prog_19_method_1_6 (pc' := 9) rfl ?_
  intro T2 h2 X2 e2 W2 F2_removeSpaces_a1 A2_a1
  have Fw2_3 := F_keep.other W2 (Or.inr (slot_ne (Or.inr (ow_20 hw)) (Or.inr (ow_18 hw)) (by decide) (t := (.object "java/lang/String")) (t' := .boolean) (by decide) (by decide)))
  have Fw2_4 := F_letterCase.other W2 (Or.inr (slot_ne (Or.inr (ow_22 hw)) (Or.inr (ow_18 hw)) (by decide) (t := (.object "com/example/kindred/kindred/matching/Preparation$LetterCase")) (t' := .boolean) (by decide) (by decide)))
  have Fw2_5 := F_take.other W2 (Or.inr (slot_ne (Or.inr (ow_24 hw)) (Or.inr (ow_18 hw)) (by decide) (t := (.object "com/example/kindred/kindred/matching/Preparation$Take")) (t' := .boolean) (by decide) (by decide)))
  have K6 := K0.wr W2 (Or.inl (List.mem_of_getElem? (i := 0) rfl))
  have N2 := own_fr1 (sl := Jvm.RoadKit.slotOf Z "com/example/kindred/kindred/matching/Preparation" "removeSpaces" "Z") N1 n0_a1
  refine own_aloadN X2 hx hby od_prog_19_method_1_9 (pc' := 10) rfl rfl rfl ?_
  refine own_aloadN X2 hx hby od_prog_19_method_1_10 (pc' := 11) rfl rfl rfl ?_
  refine own_putF X2 hx hby hZ hown (host := "") (Or.inl (ow_19 hw)) Via.refl e2 Fw2_3 A2_a1 (Or.inr ⟨(ow_20 hw), rfl, hnm⟩) (ow_4 hw) (ty := (.object "java/lang/String")) (by decide) rfl rfl od_prog_19_method_1_11 (pc' := 14) rfl ?_
  intro T7 h7 X7 e7 W7 F7_keep_a1 A7_a1
  have Fw7_8 := F2_removeSpaces_a1.other W7 (Or.inr (slot_ne (Or.inr (ow_18 hw)) (Or.inr (ow_20 hw)) (by decide) (t := .boolean) (t' := (.object "java/lang/String")) (by decide) (by decide)))
  have Fw7_9 := Fw2_4.other W7 (Or.inr (slot_ne (Or.inr (ow_22 hw)) (Or.inr (ow_20 hw)) (by decide) (t := (.object "com/example/kindred/kindred/matching/Preparation$LetterCase")) (t' := (.object "java/lang/String")) (by decide) (by decide)))
  have Fw7_10 := Fw2_5.other W7 (Or.inr (slot_ne (Or.inr (ow_24 hw)) (Or.inr (ow_20 hw)) (by decide) (t := (.object "com/example/kindred/kindred/matching/Preparation$Take")) (t' := (.object "java/lang/String")) (by decide) (by decide)))
  have K11 := K6.wr W7 (Or.inl (List.mem_of_getElem? (i := 0) rfl))
  have N7 := own_fr1 (sl := Jvm.RoadKit.slotOf Z "com/example/kindred/kindred/matching/Preparation" "keep" "Ljava/lang/String;") N2 n0_a1
  refine own_aloadN X7 hx hby od_prog_19_method_1_14 (pc' := 15) rfl rfl rfl ?_
  refine own_aloadN X7 hx hby od_prog_19_method_1_15 (pc' := 16) rfl rfl rfl ?_
  refine own_putF X7 hx hby hZ hown (host := "") (Or.inl (ow_21 hw)) Via.refl e7 Fw7_9 A7_a1 (Or.inr ⟨(ow_22 hw), rfl, hnm⟩) (ow_4 hw) (ty := (.object "com/example/kindred/kindred/matching/Preparation$LetterCase")) (by decide) rfl rfl od_prog_19_method_1_16 (pc' := 19) rfl ?_
  intro T12 h12 X12 e12 W12 F12_letterCase_a1 A12_a1
  have Fw12_13 := F7_keep_a1.other W12 (Or.inr (slot_ne (Or.inr (ow_20 hw)) (Or.inr (ow_22 hw)) (by decide) (t := (.object "java/lang/String")) (t' := (.object "com/example/kindred/kindred/matching/Preparation$LetterCase")) (by decide) (by decide)))
  have Fw12_14 := Fw7_8.other W12 (Or.inr (slot_ne (Or.inr (ow_18 hw)) (Or.inr (ow_22 hw)) (by decide) (t := .boolean) (t' := (.object "com/example/kindred/kindred/matching/Preparation$LetterCase")) (by decide) (by decide)))
  have Fw12_15 := Fw7_10.other W12 (Or.inr (slot_ne (Or.inr (ow_24 hw)) (Or.inr (ow_22 hw)) (by decide) (t := (.object "com/example/kindred/kindred/matching/Preparation$Take")) (t' := (.object "com/example/kindred/kindred/matching/Preparation$LetterCase")) (by decide) (by decide)))
  have K16 := K11.wr W12 (Or.inl (List.mem_of_getElem? (i := 0) rfl))
  have N12 := own_fr1 (sl := Jvm.RoadKit.slotOf Z "com/example/kindred/kindred/matching/Preparation" "letterCase" "Lcom/example/kindred/kindred/matching/Preparation$LetterCase;") N7 n0_a1
  refine own_aloadN X12 hx hby od_prog_19_method_1_19 (pc' := 20) rfl rfl rfl ?_
  refine own_aload X12 hx hby od_prog_19_method_1_20 (pc' := 22) rfl rfl rfl ?_
  refine own_putF X12 hx hby hZ hown (host := "") (Or.inl (ow_23 hw)) Via.refl e12 Fw12_15 A12_a1 (Or.inr ⟨(ow_24 hw), rfl, hnm⟩) (ow_4 hw) (ty := (.object "com/example/kindred/kindred/matching/Preparation$Take")) (by decide) rfl rfl od_prog_19_method_1_22 (pc' := 25) rfl ?_
  intro T17 h17 X17 e17 W17 F17_take_a1 A17_a1
  have Fw17_18 := F12_letterCase_a1.other W17 (Or.inr (slot_ne (Or.inr (ow_22 hw)) (Or.inr (ow_24 hw)) (by decide) (t := (.object "com/example/kindred/kindred/matching/Preparation$LetterCase")) (t' := (.object "com/example/kindred/kindred/matching/Preparation$Take")) (by decide) (by decide)))
  have Fw17_19 := Fw12_13.other W17 (Or.inr (slot_ne (Or.inr (ow_20 hw)) (Or.inr (ow_24 hw)) (by decide) (t := (.object "java/lang/String")) (t' := (.object "com/example/kindred/kindred/matching/Preparation$Take")) (by decide) (by decide)))
  have Fw17_20 := Fw12_14.other W17 (Or.inr (slot_ne (Or.inr (ow_18 hw)) (Or.inr (ow_24 hw)) (by decide) (t := .boolean) (t' := (.object "com/example/kindred/kindred/matching/Preparation$Take")) (by decide) (by decide)))
  have K21 := K16.wr W17 (Or.inl (List.mem_of_getElem? (i := 0) rfl))
  have N17 := own_fr1 (sl := Jvm.RoadKit.slotOf Z "com/example/kindred/kindred/matching/Preparation" "take" "Lcom/example/kindred/kindred/matching/Preparation$Take;") N12 n0_a1
  rw [hpz] at Fw17_20
  exact own_ret0 X17 hx hby hlk hrt od_prog_19_method_1_25 (by first | exact ⟨rfl, N17, K21, A17_a1, Fw17_20, Fw17_19, Fw17_18, F17_take_a1⟩ | (rw [e17]; exact ⟨rfl, N17, K21, A17_a1, Fw17_20, Fw17_19, Fw17_18, F17_take_a1⟩)) (by decide) (by decide)
theorem ef_rm_prepRN (m : MethodId) (x0 : Addr) (x1 : Int32) (x2 : Addr) (x3 : Addr) : entryFrame m #[(.ref x0), (.int x1), (.ref x2), (.ref x3), .null] 5 = mkF m 0 #[.val (.ref x0), .val (.int x1), .val (.ref x2), .val (.ref x3), .val .null] [] := by first | (simp [entryFrame, mkF, argsToLocals, Value.category]; done) | rfl
set_option maxRecDepth 65536 in
set_option maxHeartbeats 40000000 in
theorem rm_prepRN (l : Launch) (Z : State) (a0 : Array Value) (hw : ∀ d ∈ tables_1, d.before a0 Z = true) (a1 : Addr) (pz : Int32) (lx ka : Addr) (h0 : Heap) (n0 : Nat) (Z0 : n0 ≤ h0.size) (hpz : nar .boolean pz = pz) (n0_a1 : n0 ≤ a1) (A1 : Exa Z h0 a1 "com/example/kindred/kindred/matching/Preparation") (F_removeSpaces : Fld Z h0 a1 "com/example/kindred/kindred/matching/Preparation" "removeSpaces" "Z" (.int (0 : Int32))) (F_keep : Fld Z h0 a1 "com/example/kindred/kindred/matching/Preparation" "keep" "Ljava/lang/String;" .null) (F_letterCase : Fld Z h0 a1 "com/example/kindred/kindred/matching/Preparation" "letterCase" "Lcom/example/kindred/kindred/matching/Preparation$LetterCase;" .null) (F_take : Fld Z h0 a1 "com/example/kindred/kindred/matching/Preparation" "take" "Lcom/example/kindred/kindred/matching/Preparation$Take;" .null) :
    own_Met l Z (⟨"com/example/kindred/kindred/matching/Preparation", "<init>", "(ZLjava/lang/String;Lcom/example/kindred/kindred/matching/Preparation$LetterCase;Lcom/example/kindred/kindred/matching/Preparation$Take;)V"⟩ : MethodName) prog_19_method_1_code 5 none ({ frames := 2, cells := 0, slots := 0, locals := 24 } : Room) #[(.ref a1), (.int pz), (.ref ka), (.ref lx), .null] h0 (fun v h L => v = none ∧ Fr n0 L ∧ Keep h0 h [a1] ∧ Exa Z h a1 "com/example/kindred/kindred/matching/Preparation" ∧ Fld Z h a1 "com/example/kindred/kindred/matching/Preparation" "removeSpaces" "Z" (.int pz) ∧ Fld Z h a1 "com/example/kindred/kindred/matching/Preparation" "keep" "Ljava/lang/String;" (.ref ka) ∧ Fld Z h a1 "com/example/kindred/kindred/matching/Preparation" "letterCase" "Lcom/example/kindred/kindred/matching/Preparation$LetterCase;" (.ref lx) ∧ Fld Z h a1 "com/example/kindred/kindred/matching/Preparation" "take" "Lcom/example/kindred/kindred/matching/Preparation$Take;" .null) := by
  refine own_body (plainFor_of_name (by first | (simp [plainName, overriddenIn]; done) | decide +kernel)) ?_
  intro p e s m below meth c s₁ hx hby hml hown hnm hlk hrt hZ X0 e0
  refine own_enter (ef_rm_prepRN m a1 pz ka lx) ?_
  have N0 := Fr.nil n0
  have K0 := Keep.refl h0 [a1]
  refine own_aloadN X0 hx hby od_prog_19_method_1_0 (pc' := 1) rfl rfl rfl ?_
  refine own_specM X0 hx hby hml hZ hown rfl (ow_9 hw) (ow_10 hw) (ow_12 hw) (ow_13 hw) (by decide) (cc := 0) (ss := 0) (rm_rec l Z a0 hw a1 h0 n0 Z0) 0 rfl rfl (by decide) (by decide) rfl (argsL := []) (rest := []) opd_4 rfl rfl (Nat.le_refl _) od_prog_19_method_1_1 (pc' := 4) rfl rfl e0 (by decide) (by decide) ?_
  rintro v1 T1 h1 L1 X1 e1 ⟨rfl, Nq1, rfl⟩
  have N1 := N0.app Nq1
  refine own_aloadN X1 hx hby od_prog_19_method_1_4 (pc' := 5) rfl rfl rfl ?_
  refine own_iloadN X1 hx hby od_prog_19_method_1_5 (pc' := 6) rfl rfl ?_
  refine own_putFN X1 hx hby hZ hown (ow_17 hw) Via.refl e1 F_removeSpaces A1 (Or.inr ⟨(ow_18 hw), rfl, hnm⟩) (ow_4 hw) (ty := .boolean) (v' := (.int (nar .boolean pz))) (by decide) rfl (fits_nar_bool _) od_prog_19_method_1_6 (pc' := 9) rfl ?_
  intro T2 h2 X2 e2 W2 F2_removeSpaces_a1 A2_a1
  have Fw2_3 := F_keep.other W2 (Or.inr (slot_ne (Or.inr (ow_20 hw)) (Or.inr (ow_18 hw)) (by decide) (t := (.object "java/lang/String")) (t' := .boolean) (by decide) (by decide)))
  have Fw2_4 := F_letterCase.other W2 (Or.inr (slot_ne (Or.inr (ow_22 hw)) (Or.inr (ow_18 hw)) (by decide) (t := (.object "com/example/kindred/kindred/matching/Preparation$LetterCase")) (t' := .boolean) (by decide) (by decide)))
  have Fw2_5 := F_take.other W2 (Or.inr (slot_ne (Or.inr (ow_24 hw)) (Or.inr (ow_18 hw)) (by decide) (t := (.object "com/example/kindred/kindred/matching/Preparation$Take")) (t' := .boolean) (by decide) (by decide)))
  have K6 := K0.wr W2 (Or.inl (List.mem_of_getElem? (i := 0) rfl))
  have N2 := own_fr1 (sl := Jvm.RoadKit.slotOf Z "com/example/kindred/kindred/matching/Preparation" "removeSpaces" "Z") N1 n0_a1
  refine own_aloadN X2 hx hby od_prog_19_method_1_9 (pc' := 10) rfl rfl rfl ?_
  refine own_aloadN X2 hx hby od_prog_19_method_1_10 (pc' := 11) rfl rfl rfl ?_
  refine own_putF X2 hx hby hZ hown (host := "") (Or.inl (ow_19 hw)) Via.refl e2 Fw2_3 A2_a1 (Or.inr ⟨(ow_20 hw), rfl, hnm⟩) (ow_4 hw) (ty := (.object "java/lang/String")) (by decide) rfl rfl od_prog_19_method_1_11 (pc' := 14) rfl ?_
  intro T7 h7 X7 e7 W7 F7_keep_a1 A7_a1
  have Fw7_8 := F2_removeSpaces_a1.other W7 (Or.inr (slot_ne (Or.inr (ow_18 hw)) (Or.inr (ow_20 hw)) (by decide) (t := .boolean) (t' := (.object "java/lang/String")) (by decide) (by decide)))
  have Fw7_9 := Fw2_4.other W7 (Or.inr (slot_ne (Or.inr (ow_22 hw)) (Or.inr (ow_20 hw)) (by decide) (t := (.object "com/example/kindred/kindred/matching/Preparation$LetterCase")) (t' := (.object "java/lang/String")) (by decide) (by decide)))
  have Fw7_10 := Fw2_5.other W7 (Or.inr (slot_ne (Or.inr (ow_24 hw)) (Or.inr (ow_20 hw)) (by decide) (t := (.object "com/example/kindred/kindred/matching/Preparation$Take")) (t' := (.object "java/lang/String")) (by decide) (by decide)))
  have K11 := K6.wr W7 (Or.inl (List.mem_of_getElem? (i := 0) rfl))
  have N7 := own_fr1 (sl := Jvm.RoadKit.slotOf Z "com/example/kindred/kindred/matching/Preparation" "keep" "Ljava/lang/String;") N2 n0_a1
  refine own_aloadN X7 hx hby od_prog_19_method_1_14 (pc' := 15) rfl rfl rfl ?_
  refine own_aloadN X7 hx hby od_prog_19_method_1_15 (pc' := 16) rfl rfl rfl ?_
  refine own_putF X7 hx hby hZ hown (host := "") (Or.inl (ow_21 hw)) Via.refl e7 Fw7_9 A7_a1 (Or.inr ⟨(ow_22 hw), rfl, hnm⟩) (ow_4 hw) (ty := (.object "com/example/kindred/kindred/matching/Preparation$LetterCase")) (by decide) rfl rfl od_prog_19_method_1_16 (pc' := 19) rfl ?_
  intro T12 h12 X12 e12 W12 F12_letterCase_a1 A12_a1
  have Fw12_13 := F7_keep_a1.other W12 (Or.inr (slot_ne (Or.inr (ow_20 hw)) (Or.inr (ow_22 hw)) (by decide) (t := (.object "java/lang/String")) (t' := (.object "com/example/kindred/kindred/matching/Preparation$LetterCase")) (by decide) (by decide)))
  have Fw12_14 := Fw7_8.other W12 (Or.inr (slot_ne (Or.inr (ow_18 hw)) (Or.inr (ow_22 hw)) (by decide) (t := .boolean) (t' := (.object "com/example/kindred/kindred/matching/Preparation$LetterCase")) (by decide) (by decide)))
  have Fw12_15 := Fw7_10.other W12 (Or.inr (slot_ne (Or.inr (ow_24 hw)) (Or.inr (ow_22 hw)) (by decide) (t := (.object "com/example/kindred/kindred/matching/Preparation$Take")) (t' := (.object "com/example/kindred/kindred/matching/Preparation$LetterCase")) (by decide) (by decide)))
  have K16 := K11.wr W12 (Or.inl (List.mem_of_getElem? (i := 0) rfl))
  have N12 := own_fr1 (sl := Jvm.RoadKit.slotOf Z "com/example/kindred/kindred/matching/Preparation" "letterCase" "Lcom/example/kindred/kindred/matching/Preparation$LetterCase;") N7 n0_a1
  refine own_aloadN X12 hx hby od_prog_19_method_1_19 (pc' := 20) rfl rfl rfl ?_
  refine own_aload X12 hx hby od_prog_19_method_1_20 (pc' := 22) rfl rfl rfl ?_
  refine own_putF X12 hx hby hZ hown (host := "") (Or.inl (ow_23 hw)) Via.refl e12 Fw12_15 A12_a1 (Or.inr ⟨(ow_24 hw), rfl, hnm⟩) (ow_4 hw) (ty := (.object "com/example/kindred/kindred/matching/Preparation$Take")) (by decide) rfl rfl od_prog_19_method_1_22 (pc' := 25) rfl ?_
  intro T17 h17 X17 e17 W17 F17_take_a1 A17_a1
  have Fw17_18 := F12_letterCase_a1.other W17 (Or.inr (slot_ne (Or.inr (ow_22 hw)) (Or.inr (ow_24 hw)) (by decide) (t := (.object "com/example/kindred/kindred/matching/Preparation$LetterCase")) (t' := (.object "com/example/kindred/kindred/matching/Preparation$Take")) (by decide) (by decide)))
  have Fw17_19 := Fw12_13.other W17 (Or.inr (slot_ne (Or.inr (ow_20 hw)) (Or.inr (ow_24 hw)) (by decide) (t := (.object "java/lang/String")) (t' := (.object "com/example/kindred/kindred/matching/Preparation$Take")) (by decide) (by decide)))
  have Fw17_20 := Fw12_14.other W17 (Or.inr (slot_ne (Or.inr (ow_18 hw)) (Or.inr (ow_24 hw)) (by decide) (t := .boolean) (t' := (.object "com/example/kindred/kindred/matching/Preparation$Take")) (by decide) (by decide)))
  have K21 := K16.wr W17 (Or.inl (List.mem_of_getElem? (i := 0) rfl))
  have N17 := own_fr1 (sl := Jvm.RoadKit.slotOf Z "com/example/kindred/kindred/matching/Preparation" "take" "Lcom/example/kindred/kindred/matching/Preparation$Take;") N12 n0_a1
  rw [hpz] at Fw17_20
  exact own_ret0 X17 hx hby hlk hrt od_prog_19_method_1_25 (by first | exact ⟨rfl, N17, K21, A17_a1, Fw17_20, Fw17_19, Fw17_18, F17_take_a1⟩ | (rw [e17]; exact ⟨rfl, N17, K21, A17_a1, Fw17_20, Fw17_19, Fw17_18, F17_take_a1⟩)) (by decide) (by decide)
theorem ef_rm_prepRR (m : MethodId) (x0 : Addr) (x1 : Int32) (x2 : Addr) (x3 : Addr) (x4 : Addr) : entryFrame m #[(.ref x0), (.int x1), (.ref x2), (.ref x3), (.ref x4)] 5 = mkF m 0 #[.val (.ref x0), .val (.int x1), .val (.ref x2), .val (.ref x3), .val (.ref x4)] [] := by first | (simp [entryFrame, mkF, argsToLocals, Value.category]; done) | rfl
set_option maxRecDepth 65536 in
set_option maxHeartbeats 40000000 in
theorem rm_prepRR (l : Launch) (Z : State) (a0 : Array Value) (hw : ∀ d ∈ tables_1, d.before a0 Z = true) (a1 : Addr) (pz : Int32) (lx ka ta : Addr) (h0 : Heap) (n0 : Nat) (Z0 : n0 ≤ h0.size) (hpz : nar .boolean pz = pz) (n0_a1 : n0 ≤ a1) (A1 : Exa Z h0 a1 "com/example/kindred/kindred/matching/Preparation") (F_removeSpaces : Fld Z h0 a1 "com/example/kindred/kindred/matching/Preparation" "removeSpaces" "Z" (.int (0 : Int32))) (F_keep : Fld Z h0 a1 "com/example/kindred/kindred/matching/Preparation" "keep" "Ljava/lang/String;" .null) (F_letterCase : Fld Z h0 a1 "com/example/kindred/kindred/matching/Preparation" "letterCase" "Lcom/example/kindred/kindred/matching/Preparation$LetterCase;" .null) (F_take : Fld Z h0 a1 "com/example/kindred/kindred/matching/Preparation" "take" "Lcom/example/kindred/kindred/matching/Preparation$Take;" .null) :
    own_Met l Z (⟨"com/example/kindred/kindred/matching/Preparation", "<init>", "(ZLjava/lang/String;Lcom/example/kindred/kindred/matching/Preparation$LetterCase;Lcom/example/kindred/kindred/matching/Preparation$Take;)V"⟩ : MethodName) prog_19_method_1_code 5 none ({ frames := 2, cells := 0, slots := 0, locals := 24 } : Room) #[(.ref a1), (.int pz), (.ref ka), (.ref lx), (.ref ta)] h0 (fun v h L => v = none ∧ Fr n0 L ∧ Keep h0 h [a1] ∧ Exa Z h a1 "com/example/kindred/kindred/matching/Preparation" ∧ Fld Z h a1 "com/example/kindred/kindred/matching/Preparation" "removeSpaces" "Z" (.int pz) ∧ Fld Z h a1 "com/example/kindred/kindred/matching/Preparation" "keep" "Ljava/lang/String;" (.ref ka) ∧ Fld Z h a1 "com/example/kindred/kindred/matching/Preparation" "letterCase" "Lcom/example/kindred/kindred/matching/Preparation$LetterCase;" (.ref lx) ∧ Fld Z h a1 "com/example/kindred/kindred/matching/Preparation" "take" "Lcom/example/kindred/kindred/matching/Preparation$Take;" (.ref ta)) := by
  refine own_body (plainFor_of_name (by first | (simp [plainName, overriddenIn]; done) | decide +kernel)) ?_
  intro p e s m below meth c s₁ hx hby hml hown hnm hlk hrt hZ X0 e0
  refine own_enter (ef_rm_prepRR m a1 pz ka lx ta) ?_
  have N0 := Fr.nil n0
  have K0 := Keep.refl h0 [a1]
  refine own_aloadN X0 hx hby od_prog_19_method_1_0 (pc' := 1) rfl rfl rfl ?_
  refine own_specM X0 hx hby hml hZ hown rfl (ow_9 hw) (ow_10 hw) (ow_12 hw) (ow_13 hw) (by decide) (cc := 0) (ss := 0) (rm_rec l Z a0 hw a1 h0 n0 Z0) 0 rfl rfl (by decide) (by decide) rfl (argsL := []) (rest := []) opd_4 rfl rfl (Nat.le_refl _) od_prog_19_method_1_1 (pc' := 4) rfl rfl e0 (by decide) (by decide) ?_
  rintro v1 T1 h1 L1 X1 e1 ⟨rfl, Nq1, rfl⟩
  have N1 := N0.app Nq1
  refine own_aloadN X1 hx hby od_prog_19_method_1_4 (pc' := 5) rfl rfl rfl ?_
  refine own_iloadN X1 hx hby od_prog_19_method_1_5 (pc' := 6) rfl rfl ?_
  refine own_putFN X1 hx hby hZ hown (ow_17 hw) Via.refl e1 F_removeSpaces A1 (Or.inr ⟨(ow_18 hw), rfl, hnm⟩) (ow_4 hw) (ty := .boolean) (v' := (.int (nar .boolean pz))) (by decide) rfl (fits_nar_bool _) od_prog_19_method_1_6 (pc' := 9) rfl ?_
  intro T2 h2 X2 e2 W2 F2_removeSpaces_a1 A2_a1
  have Fw2_3 := F_keep.other W2 (Or.inr (slot_ne (Or.inr (ow_20 hw)) (Or.inr (ow_18 hw)) (by decide) (t := (.object "java/lang/String")) (t' := .boolean) (by decide) (by decide)))
  have Fw2_4 := F_letterCase.other W2 (Or.inr (slot_ne (Or.inr (ow_22 hw)) (Or.inr (ow_18 hw)) (by decide) (t := (.object "com/example/kindred/kindred/matching/Preparation$LetterCase")) (t' := .boolean) (by decide) (by decide)))
  have Fw2_5 := F_take.other W2 (Or.inr (slot_ne (Or.inr (ow_24 hw)) (Or.inr (ow_18 hw)) (by decide) (t := (.object "com/example/kindred/kindred/matching/Preparation$Take")) (t' := .boolean) (by decide) (by decide)))
  have K6 := K0.wr W2 (Or.inl (List.mem_of_getElem? (i := 0) rfl))
  have N2 := own_fr1 (sl := Jvm.RoadKit.slotOf Z "com/example/kindred/kindred/matching/Preparation" "removeSpaces" "Z") N1 n0_a1
  refine own_aloadN X2 hx hby od_prog_19_method_1_9 (pc' := 10) rfl rfl rfl ?_
  refine own_aloadN X2 hx hby od_prog_19_method_1_10 (pc' := 11) rfl rfl rfl ?_
  refine own_putF X2 hx hby hZ hown (host := "") (Or.inl (ow_19 hw)) Via.refl e2 Fw2_3 A2_a1 (Or.inr ⟨(ow_20 hw), rfl, hnm⟩) (ow_4 hw) (ty := (.object "java/lang/String")) (by decide) rfl rfl od_prog_19_method_1_11 (pc' := 14) rfl ?_
  intro T7 h7 X7 e7 W7 F7_keep_a1 A7_a1
  have Fw7_8 := F2_removeSpaces_a1.other W7 (Or.inr (slot_ne (Or.inr (ow_18 hw)) (Or.inr (ow_20 hw)) (by decide) (t := .boolean) (t' := (.object "java/lang/String")) (by decide) (by decide)))
  have Fw7_9 := Fw2_4.other W7 (Or.inr (slot_ne (Or.inr (ow_22 hw)) (Or.inr (ow_20 hw)) (by decide) (t := (.object "com/example/kindred/kindred/matching/Preparation$LetterCase")) (t' := (.object "java/lang/String")) (by decide) (by decide)))
  have Fw7_10 := Fw2_5.other W7 (Or.inr (slot_ne (Or.inr (ow_24 hw)) (Or.inr (ow_20 hw)) (by decide) (t := (.object "com/example/kindred/kindred/matching/Preparation$Take")) (t' := (.object "java/lang/String")) (by decide) (by decide)))
  have K11 := K6.wr W7 (Or.inl (List.mem_of_getElem? (i := 0) rfl))
  have N7 := own_fr1 (sl := Jvm.RoadKit.slotOf Z "com/example/kindred/kindred/matching/Preparation" "keep" "Ljava/lang/String;") N2 n0_a1
  refine own_aloadN X7 hx hby od_prog_19_method_1_14 (pc' := 15) rfl rfl rfl ?_
  refine own_aloadN X7 hx hby od_prog_19_method_1_15 (pc' := 16) rfl rfl rfl ?_
  refine own_putF X7 hx hby hZ hown (host := "") (Or.inl (ow_21 hw)) Via.refl e7 Fw7_9 A7_a1 (Or.inr ⟨(ow_22 hw), rfl, hnm⟩) (ow_4 hw) (ty := (.object "com/example/kindred/kindred/matching/Preparation$LetterCase")) (by decide) rfl rfl od_prog_19_method_1_16 (pc' := 19) rfl ?_
  intro T12 h12 X12 e12 W12 F12_letterCase_a1 A12_a1
  have Fw12_13 := F7_keep_a1.other W12 (Or.inr (slot_ne (Or.inr (ow_20 hw)) (Or.inr (ow_22 hw)) (by decide) (t := (.object "java/lang/String")) (t' := (.object "com/example/kindred/kindred/matching/Preparation$LetterCase")) (by decide) (by decide)))
  have Fw12_14 := Fw7_8.other W12 (Or.inr (slot_ne (Or.inr (ow_18 hw)) (Or.inr (ow_22 hw)) (by decide) (t := .boolean) (t' := (.object "com/example/kindred/kindred/matching/Preparation$LetterCase")) (by decide) (by decide)))
  have Fw12_15 := Fw7_10.other W12 (Or.inr (slot_ne (Or.inr (ow_24 hw)) (Or.inr (ow_22 hw)) (by decide) (t := (.object "com/example/kindred/kindred/matching/Preparation$Take")) (t' := (.object "com/example/kindred/kindred/matching/Preparation$LetterCase")) (by decide) (by decide)))
  have K16 := K11.wr W12 (Or.inl (List.mem_of_getElem? (i := 0) rfl))
  have N12 := own_fr1 (sl := Jvm.RoadKit.slotOf Z "com/example/kindred/kindred/matching/Preparation" "letterCase" "Lcom/example/kindred/kindred/matching/Preparation$LetterCase;") N7 n0_a1
  refine own_aloadN X12 hx hby od_prog_19_method_1_19 (pc' := 20) rfl rfl rfl ?_
  refine own_aload X12 hx hby od_prog_19_method_1_20 (pc' := 22) rfl rfl rfl ?_
  refine own_putF X12 hx hby hZ hown (host := "") (Or.inl (ow_23 hw)) Via.refl e12 Fw12_15 A12_a1 (Or.inr ⟨(ow_24 hw), rfl, hnm⟩) (ow_4 hw) (ty := (.object "com/example/kindred/kindred/matching/Preparation$Take")) (by decide) rfl rfl od_prog_19_method_1_22 (pc' := 25) rfl ?_
  intro T17 h17 X17 e17 W17 F17_take_a1 A17_a1
  have Fw17_18 := F12_letterCase_a1.other W17 (Or.inr (slot_ne (Or.inr (ow_22 hw)) (Or.inr (ow_24 hw)) (by decide) (t := (.object "com/example/kindred/kindred/matching/Preparation$LetterCase")) (t' := (.object "com/example/kindred/kindred/matching/Preparation$Take")) (by decide) (by decide)))
  have Fw17_19 := Fw12_13.other W17 (Or.inr (slot_ne (Or.inr (ow_20 hw)) (Or.inr (ow_24 hw)) (by decide) (t := (.object "java/lang/String")) (t' := (.object "com/example/kindred/kindred/matching/Preparation$Take")) (by decide) (by decide)))
  have Fw17_20 := Fw12_14.other W17 (Or.inr (slot_ne (Or.inr (ow_18 hw)) (Or.inr (ow_24 hw)) (by decide) (t := .boolean) (t' := (.object "com/example/kindred/kindred/matching/Preparation$Take")) (by decide) (by decide)))
  have K21 := K16.wr W17 (Or.inl (List.mem_of_getElem? (i := 0) rfl))
  have N17 := own_fr1 (sl := Jvm.RoadKit.slotOf Z "com/example/kindred/kindred/matching/Preparation" "take" "Lcom/example/kindred/kindred/matching/Preparation$Take;") N12 n0_a1
  rw [hpz] at Fw17_20
  exact own_ret0 X17 hx hby hlk hrt od_prog_19_method_1_25 (by first | exact ⟨rfl, N17, K21, A17_a1, Fw17_20, Fw17_19, Fw17_18, F17_take_a1⟩ | (rw [e17]; exact ⟨rfl, N17, K21, A17_a1, Fw17_20, Fw17_19, Fw17_18, F17_take_a1⟩)) (by decide) (by decide)
theorem ef_rm_k1 (m : MethodId) (x0 : Addr) : entryFrame m #[(.ref x0)] 1 = mkF m 0 #[.val (.ref x0)] [] := by first | (simp [entryFrame, mkF, argsToLocals, Value.category]; done) | rfl
set_option maxRecDepth 65536 in
set_option maxHeartbeats 40000000 in
theorem rm_k1 (l : Launch) (Z : State) (a0 : Array Value) (hw : ∀ d ∈ tables_1, d.before a0 Z = true) (a1 : Addr) (h0 : Heap) (n0 : Nat) (Z0 : n0 ≤ h0.size) (F1 : Fld Z h0 a1 "com/example/kindred/kindred/matching/Preparation" "removeSpaces" "Z" (.int (1 : Int32))) :
    own_Met l Z (⟨"com/example/kindred/kindred/matching/Preparation", "keepsEveryCharacter", "()Z"⟩ : MethodName) prog_19_method_4_code 1 (some .boolean) ({ frames := 0, cells := 0, slots := 0, locals := 0 } : Room) #[(.ref a1)] h0 (fun v h L => v = some (.int (0 : Int32)) ∧ Fr n0 L ∧ h0 = h) := by
  refine own_body (plainFor_of_name (by first | (simp [plainName, overriddenIn]; done) | decide +kernel)) ?_
  intro p e s m below meth c s₁ hx hby hml hown hnm hlk hrt hZ X0 e0
  refine own_enter (ef_rm_k1 m a1) ?_
  have N0 := Fr.nil n0
  refine own_aloadN X0 hx hby od_prog_19_method_4_0 (pc' := 1) rfl rfl rfl ?_
  refine own_getF X0 hx hby hZ hown (host := "") (Or.inl (ow_17 hw)) Via.refl e0 F1 od_prog_19_method_4_1 (pc' := 4) rfl ?_
  intro T1 X1 e1
  refine own_ifY X1 hx hby od_prog_19_method_4_4 (by decide) (pc' := 18) (by decide) (feq (by decide)).2 ?_
  refine own_iconst X1 hx hby od_prog_19_method_4_18 (pc' := 19) rfl (z := 0) rfl ?_
  exact own_retN X1 hx hby hlk hrt (by simp) od_prog_19_method_4_19 (z' := (0 : Int32)) rfl (by first | exact ⟨rfl, N0, rfl⟩ | (rw [e1]; exact ⟨rfl, N0, rfl⟩)) (by decide) (by decide)
theorem ef_rm_k0N (m : MethodId) (x0 : Addr) : entryFrame m #[(.ref x0)] 1 = mkF m 0 #[.val (.ref x0)] [] := by first | (simp [entryFrame, mkF, argsToLocals, Value.category]; done) | rfl
set_option maxRecDepth 65536 in
set_option maxHeartbeats 40000000 in
theorem rm_k0N (l : Launch) (Z : State) (a0 : Array Value) (hw : ∀ d ∈ tables_1, d.before a0 Z = true) (a1 : Addr) (h0 : Heap) (n0 : Nat) (Z0 : n0 ≤ h0.size) (F1 : Fld Z h0 a1 "com/example/kindred/kindred/matching/Preparation" "removeSpaces" "Z" (.int (0 : Int32))) (F2 : Fld Z h0 a1 "com/example/kindred/kindred/matching/Preparation" "keep" "Ljava/lang/String;" .null) :
    own_Met l Z (⟨"com/example/kindred/kindred/matching/Preparation", "keepsEveryCharacter", "()Z"⟩ : MethodName) prog_19_method_4_code 1 (some .boolean) ({ frames := 0, cells := 0, slots := 0, locals := 0 } : Room) #[(.ref a1)] h0 (fun v h L => v = some (.int (1 : Int32)) ∧ Fr n0 L ∧ h0 = h) := by
  refine own_body (plainFor_of_name (by first | (simp [plainName, overriddenIn]; done) | decide +kernel)) ?_
  intro p e s m below meth c s₁ hx hby hml hown hnm hlk hrt hZ X0 e0
  refine own_enter (ef_rm_k0N m a1) ?_
  have N0 := Fr.nil n0
  refine own_aloadN X0 hx hby od_prog_19_method_4_0 (pc' := 1) rfl rfl rfl ?_
  refine own_getF X0 hx hby hZ hown (host := "") (Or.inl (ow_17 hw)) Via.refl e0 F1 od_prog_19_method_4_1 (pc' := 4) rfl ?_
  intro T1 X1 e1
  refine own_ifN X1 hx hby od_prog_19_method_4_4 (pc' := 7) rfl (teq rfl).2 ?_
  refine own_aloadN X1 hx hby od_prog_19_method_4_7 (pc' := 8) rfl rfl rfl ?_
  refine own_getF X1 hx hby hZ hown (host := "") (Or.inl (ow_19 hw)) Via.refl e1 F2 od_prog_19_method_4_8 (pc' := 11) rfl ?_
  intro T2 X2 e2
  refine own_ifnonnullN X2 hx hby od_prog_19_method_4_11 (pc' := 14) rfl ?_
  refine own_iconst X2 hx hby od_prog_19_method_4_14 (pc' := 15) rfl (z := 1) rfl ?_
  refine own_goto X2 hx hby od_prog_19_method_4_15 (by decide) (pc' := 19) (by decide) ?_
  exact own_retN X2 hx hby hlk hrt (by simp) od_prog_19_method_4_19 (z' := (1 : Int32)) rfl (by first | exact ⟨rfl, N0, rfl⟩ | (rw [e2]; exact ⟨rfl, N0, rfl⟩)) (by decide) (by decide)
theorem ef_rm_k0R (m : MethodId) (x0 : Addr) : entryFrame m #[(.ref x0)] 1 = mkF m 0 #[.val (.ref x0)] [] := by first | (simp [entryFrame, mkF, argsToLocals, Value.category]; done) | rfl
set_option maxRecDepth 65536 in
set_option maxHeartbeats 40000000 in
theorem rm_k0R (l : Launch) (Z : State) (a0 : Array Value) (hw : ∀ d ∈ tables_1, d.before a0 Z = true) (a1 : Addr) (ka : Addr) (h0 : Heap) (n0 : Nat) (Z0 : n0 ≤ h0.size) (F1 : Fld Z h0 a1 "com/example/kindred/kindred/matching/Preparation" "removeSpaces" "Z" (.int (0 : Int32))) (F2 : Fld Z h0 a1 "com/example/kindred/kindred/matching/Preparation" "keep" "Ljava/lang/String;" (.ref ka)) :
    own_Met l Z (⟨"com/example/kindred/kindred/matching/Preparation", "keepsEveryCharacter", "()Z"⟩ : MethodName) prog_19_method_4_code 1 (some .boolean) ({ frames := 0, cells := 0, slots := 0, locals := 0 } : Room) #[(.ref a1)] h0 (fun v h L => v = some (.int (0 : Int32)) ∧ Fr n0 L ∧ h0 = h) := by
  refine own_body (plainFor_of_name (by first | (simp [plainName, overriddenIn]; done) | decide +kernel)) ?_
  intro p e s m below meth c s₁ hx hby hml hown hnm hlk hrt hZ X0 e0
  refine own_enter (ef_rm_k0R m a1) ?_
  have N0 := Fr.nil n0
  refine own_aloadN X0 hx hby od_prog_19_method_4_0 (pc' := 1) rfl rfl rfl ?_
  refine own_getF X0 hx hby hZ hown (host := "") (Or.inl (ow_17 hw)) Via.refl e0 F1 od_prog_19_method_4_1 (pc' := 4) rfl ?_
  intro T1 X1 e1
  refine own_ifN X1 hx hby od_prog_19_method_4_4 (pc' := 7) rfl (teq rfl).2 ?_
  refine own_aloadN X1 hx hby od_prog_19_method_4_7 (pc' := 8) rfl rfl rfl ?_
  refine own_getF X1 hx hby hZ hown (host := "") (Or.inl (ow_19 hw)) Via.refl e1 F2 od_prog_19_method_4_8 (pc' := 11) rfl ?_
  intro T2 X2 e2
  refine own_ifnonnullY X2 hx hby od_prog_19_method_4_11 (by decide) (pc' := 18) (by decide) ?_
  refine own_iconst X2 hx hby od_prog_19_method_4_18 (pc' := 19) rfl (z := 0) rfl ?_
  exact own_retN X2 hx hby hlk hrt (by simp) od_prog_19_method_4_19 (z' := (0 : Int32)) rfl (by first | exact ⟨rfl, N0, rfl⟩ | (rw [e2]; exact ⟨rfl, N0, rfl⟩)) (by decide) (by decide)
theorem ef_rm_law (m : MethodId) (x0 : Int32) (x1 : Int32) (x2 : Int32) (x3 : Int32) (x4 : Int32) : entryFrame m #[(.int x0), (.int x1), (.int x2), (.int x3), (.int x4)] maxLocals = mkF m 0 #[.val (.int x0), .val (.int x1), .val (.int x2), .val (.int x3), .val (.int x4), .unset, .unset, .unset, .unset, .unset, .unset, .unset, .unset] [] := by first | (simp [entryFrame, mkF, argsToLocals, Value.category, maxLocals]; done) | rfl
set_option maxRecDepth 65536 in
set_option maxHeartbeats 40000000 in
theorem rm_law (l : Launch) (Z : State) (a0 : Array Value) (hw : ∀ d ∈ tables_1, d.before a0 Z = true) (p1 p2 p3 p4 p5 : Int32) (G1 : Int32) (g_INSENSITIVE g_AS_IS g_UPPER g_LOWER : Addr) (h0 : Heap) (n0 : Nat) (Z0 : n0 ≤ h0.size) (S_cs : Sta Z h0 "java/lang/String" "COMPACT_STRINGS" "Z" (.int G1)) (P5 : ¬ (G1 = (0 : Int32))) (S_INSENSITIVE : Sta Z h0 "com/example/kindred/kindred/matching/Preparation$LetterCase" "INSENSITIVE" "Lcom/example/kindred/kindred/matching/Preparation$LetterCase;" (.ref g_INSENSITIVE)) (S_AS_IS : Sta Z h0 "com/example/kindred/kindred/matching/Preparation$LetterCase" "AS_IS" "Lcom/example/kindred/kindred/matching/Preparation$LetterCase;" (.ref g_AS_IS)) (S_UPPER : Sta Z h0 "com/example/kindred/kindred/matching/Preparation$LetterCase" "UPPER" "Lcom/example/kindred/kindred/matching/Preparation$LetterCase;" (.ref g_UPPER)) (S_LOWER : Sta Z h0 "com/example/kindred/kindred/matching/Preparation$LetterCase" "LOWER" "Lcom/example/kindred/kindred/matching/Preparation$LetterCase;" (.ref g_LOWER)) :
    own_MetW l Z own_EL x code maxLocals ret room_1 #[(.int p1), (.int p2), (.int p3), (.int p4), (.int p5)] h0 (fun v h L => v = some (.int 1) ∧ Fr n0 L) := by
  refine own_bodyW (plainFor_of_name (by first | (simp [plainName, overriddenIn]; done) | decide +kernel)) ?_
  intro p e s m below meth c s₁ vm0 hx hby hml hown hnm hlk hrt hZ hZ0 SN CH X0 e0
  have hml : c.maxLocals = 13 := hml
  refine own_enter (ef_rm_law m p1 p2 p3 p4 p5) ?_
  have N0 := Fr.nil n0
  refine own_iloadN X0 hx hby at_0 (pc' := 1) rfl rfl ?_
  refine own_iconst X0 hx hby at_1 (pc' := 2) rfl (z := 1) rfl ?_
  refine own_iand X0 hx hby at_2 (pc' := 3) rfl ?_
  refine own_join (α := Int32) (F := fun z => s₁.setTop (mkF m 11 #[.val (.int p1), .val (.int p2), .val (.int p3), .val (.int p4), .val (.int p5), .unset, .unset, .unset, .unset, .unset, .unset, .unset, .unset] [(.int z)])) (P := fun z => z = 0 ∨ z = 1) ?_ ?_
  · intro z h_z
    show own_E p.tables e below _ (s₁.setTop (mkF m 11 #[.val (.int p1), .val (.int p2), .val (.int p3), .val (.int p4), .val (.int p5), .unset, .unset, .unset, .unset, .unset, .unset, .unset, .unset] [(.int z)]))
    refine own_istore X0 hx hby at_11 (pc' := 13) rfl (Ls' := #[.val (.int p1), .val (.int p2), .val (.int p3), .val (.int p4), .val (.int p5), .val (.int z), .unset, .unset, .unset, .unset, .unset, .unset, .unset]) rfl ?_
    refine own_iloadN X0 hx hby at_13 (pc' := 14) rfl rfl ?_
    refine own_iconst X0 hx hby at_14 (pc' := 15) rfl (z := 1) rfl ?_
    refine own_iushr X0 hx hby at_15 (pc' := 16) rfl ?_
    refine own_iconst X0 hx hby at_16 (pc' := 17) rfl (z := 3) rfl ?_
    refine own_iand X0 hx hby at_17 (pc' := 18) rfl ?_
    generalize hq_q : (((p1.toUInt32 >>> ((1 : Int32) &&& 31).toUInt32).toInt32) &&& (3 : Int32)) = q
    refine own_istore X0 hx hby at_18 (pc' := 20) rfl (Ls' := #[.val (.int p1), .val (.int p2), .val (.int p3), .val (.int p4), .val (.int p5), .val (.int z), .val (.int q), .unset, .unset, .unset, .unset, .unset, .unset]) rfl ?_
    refine own_iload X0 hx hby at_20 (pc' := 22) rfl rfl ?_
    by_cases hq0 : q = (0 : Int32)
    · refine own_ifN X0 hx hby at_22 (pc' := 25) rfl (teq hq0).2 ?_
      refine own_aconst_null X0 hx hby at_25 (pc' := 26) rfl ?_
      refine own_astore X0 hx hby at_26 (pc' := 28) rfl rfl (Ls' := #[.val (.int p1), .val (.int p2), .val (.int p3), .val (.int p4), .val (.int p5), .val (.int z), .val (.int q), .val .null, .unset, .unset, .unset, .unset, .unset]) rfl ?_
      refine own_goto X0 hx hby at_28 (by decide) (pc' := 108) (by decide) ?_
      refine own_iloadN X0 hx hby at_108 (pc' := 109) rfl rfl ?_
      refine own_iconst X0 hx hby at_109 (pc' := 110) rfl (z := 3) rfl ?_
      refine own_iand X0 hx hby at_110 (pc' := 111) rfl ?_
      refine own_istore X0 hx hby at_111 (pc' := 113) rfl (Ls' := #[.val (.int p1), .val (.int p2), .val (.int p3), .val (.int p4), .val (.int p5), .val (.int z), .val (.int q), .val .null, .val (.int (p4 &&& (3 : Int32))), .unset, .unset, .unset, .unset]) rfl ?_
      refine own_iload X0 hx hby at_113 (pc' := 115) rfl rfl ?_
      have J2 : ∀ (Tj2 : State) (vmj2 : Vm) (hj2 : Heap) (Lj2 : List Loc) (lx : Addr), Stand p l e room_1 (s.setVm vmj2) m #[(.int p1), (.int p2), (.int p3), (.int p4), (.int p5)] below meth c Tj2 Lj2 16 700 → Tj2.heap = hj2 → Z.Warmed39 vmj2 → vmj2.findClass "com/example/kindred/kindred/matching/PreparationKeepsEveryCharacterPinLaw" = some m.cls → own_Sn s vmj2 hj2 → own_CH Z own_EL s.vm h0 vmj2 hj2 → Ext h0 hj2 → Fr n0 Lj2 → Sta Z hj2 "java/lang/String" "COMPACT_STRINGS" "Z" (.int G1) → Sta Z hj2 "com/example/kindred/kindred/matching/Preparation$LetterCase" "INSENSITIVE" "Lcom/example/kindred/kindred/matching/Preparation$LetterCase;" (.ref g_INSENSITIVE) → Sta Z hj2 "com/example/kindred/kindred/matching/Preparation$LetterCase" "AS_IS" "Lcom/example/kindred/kindred/matching/Preparation$LetterCase;" (.ref g_AS_IS) → Sta Z hj2 "com/example/kindred/kindred/matching/Preparation$LetterCase" "UPPER" "Lcom/example/kindred/kindred/matching/Preparation$LetterCase;" (.ref g_UPPER) → Sta Z hj2 "com/example/kindred/kindred/matching/Preparation$LetterCase" "LOWER" "Lcom/example/kindred/kindred/matching/Preparation$LetterCase;" (.ref g_LOWER) → own_E p.tables e below (own_EndW Z own_EL s h0 below (fun v h L => v = some (.int 1) ∧ Fr n0 L) room_1.cells room_1.slots) (Tj2.setTop (mkF m 159 #[.val (.int p1), .val (.int p2), .val (.int p3), .val (.int p4), .val (.int p5), .val (.int z), .val (.int q), .val .null, .val (.int (p4 &&& (3 : Int32))), .val (.ref lx), .unset, .unset, .unset] [])) := by
        intro Tj2 vmj2 hj2 Lj2 lx Xj2 ej2 hZ hown SNj2 CHj2 Ej2 Nj2 fj2_0 fj2_1 fj2_2 fj2_3 fj2_4
        refine own_aconst_null Xj2 hx hby at_159 (pc' := 160) rfl ?_
        refine own_astore Xj2 hx hby at_160 (pc' := 162) rfl rfl (Ls' := #[.val (.int p1), .val (.int p2), .val (.int p3), .val (.int p4), .val (.int p5), .val (.int z), .val (.int q), .val .null, .val (.int (p4 &&& (3 : Int32))), .val (.ref lx), .val .null, .unset, .unset]) rfl ?_
        refine own_iloadN Xj2 hx hby at_162 (pc' := 163) rfl rfl ?_
        refine own_bipush Xj2 hx hby at_163 (pc' := 165) rfl (z := 8) rfl ?_
        refine own_iand Xj2 hx hby at_165 (pc' := 166) rfl ?_
        by_cases hb4 : (p1 &&& (8 : Int32)) = (0 : Int32)
        · refine own_ifY Xj2 hx hby at_166 (by decide) (pc' := 199) (by decide) (teq hb4).1 ?_
          refine own_newO Xj2 hx hby hZ hown (ow_3 hw) (ow_4 hw) (ow_5 hw) ej2 at_199 (pc' := 202) rfl (by decide) (by decide) ?_
          intro T3 h3 b3 g3 X3 e3 E3 AX3 D3
          have le4 : h0.size ≤ b3 := Nat.le_trans Ej2.1 (Nat.le_of_eq g3.symm)
          have le5 : hj2.size ≤ b3 := Nat.le_of_eq g3.symm
          have n0_b3 : n0 ≤ b3 := Nat.le_trans (Nat.le_trans Z0 Ej2.1) (Nat.le_of_eq g3.symm)
          have Ea6 := own_xt Ej2 E3
          have F_removeSpaces_b3 : Fld Z h3 b3 "com/example/kindred/kindred/matching/Preparation" "removeSpaces" "Z" (.int (0 : Int32)) := D3 (Or.inr (ow_18 hw)) (ty := .boolean) (by decide)
          have F_keep_b3 : Fld Z h3 b3 "com/example/kindred/kindred/matching/Preparation" "keep" "Ljava/lang/String;" .null := D3 (Or.inr (ow_20 hw)) (ty := (.object "java/lang/String")) (by decide)
          have F_letterCase_b3 : Fld Z h3 b3 "com/example/kindred/kindred/matching/Preparation" "letterCase" "Lcom/example/kindred/kindred/matching/Preparation$LetterCase;" .null := D3 (Or.inr (ow_22 hw)) (ty := (.object "com/example/kindred/kindred/matching/Preparation$LetterCase")) (by decide)
          have F_take_b3 : Fld Z h3 b3 "com/example/kindred/kindred/matching/Preparation" "take" "Lcom/example/kindred/kindred/matching/Preparation$Take;" .null := D3 (Or.inr (ow_24 hw)) (ty := (.object "com/example/kindred/kindred/matching/Preparation$Take")) (by decide)
          refine own_dup X3 hx hby at_202 (pc' := 203) rfl rfl ?_
          refine own_iload X3 hx hby at_203 (pc' := 205) rfl rfl ?_
          refine own_aload X3 hx hby at_205 (pc' := 207) rfl rfl rfl ?_
          refine own_aload X3 hx hby at_207 (pc' := 209) rfl rfl rfl ?_
          refine own_aload X3 hx hby at_209 (pc' := 211) rfl rfl rfl ?_
          refine own_specM X3 hx hby hml hZ hown rfl (ow_6 hw) (ow_7 hw) (ow_5 hw) (ow_8 hw) (by decide) (cc := 0) (ss := 0) (rm_prepNN l Z a0 hw b3 z lx h3 n0 (Nat.le_trans Z0 Ea6.1) (own_bool h_z) n0_b3 AX3 F_removeSpaces_b3 F_keep_b3 F_letterCase_b3 F_take_b3) 1 rfl rfl (by decide) (by decide) rfl (argsL := [(.int z), .null, (.ref lx), .null]) (rest := [(.ref b3)]) opd_5 rfl rfl (Nat.le_refl _) at_211 (pc' := 214) rfl rfl e3 (by decide) (by decide) ?_
          rintro v7 T7 h7 L7 X7 e7 ⟨rfl, Nq7, Kq7, Br, B1, B2, B3, B4⟩
          have N7 := Nj2.app Nq7
          have Ea8 := own_xk Ea6 Kq7 (allS le4 all0)
          have Ea9 := own_xk E3 Kq7 (allS le5 all0)
          replace fj2_0 := fj2_0.ext Ea9
          replace fj2_1 := fj2_1.ext Ea9
          replace fj2_2 := fj2_2.ext Ea9
          replace fj2_3 := fj2_3.ext Ea9
          replace fj2_4 := fj2_4.ext Ea9
          replace SNj2 := SNj2.ext Ea9
          replace CHj2 := CHj2.ext Ea9
          refine own_astore X7 hx hby at_214 (pc' := 216) rfl rfl (Ls' := #[.val (.int p1), .val (.int p2), .val (.int p3), .val (.int p4), .val (.int p5), .val (.int z), .val (.int q), .val .null, .val (.int (p4 &&& (3 : Int32))), .val (.ref lx), .val .null, .val (.ref b3), .unset]) rfl ?_
          refine own_iload X7 hx hby at_216 (pc' := 218) rfl rfl ?_
          rcases h_z with rfl | rfl
          · refine own_ifY X7 hx hby at_218 (by decide) (pc' := 227) (by decide) (teq rfl).1 ?_
            refine own_iload X7 hx hby at_227 (pc' := 229) rfl rfl ?_
            refine own_ifY X7 hx hby at_229 (by decide) (pc' := 238) (by decide) (teq hq0).1 ?_
            refine own_iconst X7 hx hby at_238 (pc' := 239) rfl (z := 1) rfl ?_
            refine own_istore X7 hx hby at_239 (pc' := 241) rfl (Ls' := #[.val (.int p1), .val (.int p2), .val (.int p3), .val (.int p4), .val (.int p5), .val (.int (0 : Int32)), .val (.int q), .val .null, .val (.int (p4 &&& (3 : Int32))), .val (.ref lx), .val .null, .val (.ref b3), .val (.int (1 : Int32))]) rfl ?_
            refine own_aload X7 hx hby at_241 (pc' := 243) rfl rfl rfl ?_
            refine own_virtM X7 hx hby hml hZ hown (ow_25 hw) (ow_26 hw) (notFace_of_selects (args := #[]) (mvT hZ (ow_28 hw))) (ow_28 hw) (ow_27 hw) (ow_5 hw) (ow_29 hw) (by decide) (cc := 0) (ss := 0) (rm_k0N l Z a0 hw b3 h7 n0 (Nat.le_trans Z0 Ea8.1) B1 B2) 0 rfl rfl (by decide) (by decide) rfl Br (argsL := []) (rest := []) opd_6 rfl rfl (Nat.le_refl _) at_243 (pc' := 246) rfl rfl e7 (by decide) (by decide) ?_
            rintro v10 T10 h10 L10 X10 e10 ⟨rfl, Nq10, rfl⟩
            have N10 := N7.app Nq10
            refine own_iload X10 hx hby at_246 (pc' := 248) rfl rfl ?_
            refine own_icmpN X10 hx hby at_248 (pc' := 251) rfl (teq rfl).2 ?_
            refine own_iconst X10 hx hby at_251 (pc' := 252) rfl (z := 1) rfl ?_
            refine own_goto X10 hx hby at_252 (by decide) (pc' := 256) (by decide) ?_
            exact own_retNW X10 hx hby hZ (own_ew hw) e10 SNj2 CHj2 hlk hrt (by simp) at_256 (z' := (1 : Int32)) rfl ⟨rfl, N10⟩ (by decide) (by decide)
          · refine own_ifN X7 hx hby at_218 (pc' := 221) rfl (feq (by decide)).1 ?_
            refine own_iconst X7 hx hby at_221 (pc' := 222) rfl (z := 0) rfl ?_
            refine own_istore X7 hx hby at_222 (pc' := 224) rfl (Ls' := #[.val (.int p1), .val (.int p2), .val (.int p3), .val (.int p4), .val (.int p5), .val (.int (1 : Int32)), .val (.int q), .val .null, .val (.int (p4 &&& (3 : Int32))), .val (.ref lx), .val .null, .val (.ref b3), .val (.int (0 : Int32))]) rfl ?_
            refine own_goto X7 hx hby at_224 (by decide) (pc' := 241) (by decide) ?_
            refine own_aload X7 hx hby at_241 (pc' := 243) rfl rfl rfl ?_
            refine own_virtM X7 hx hby hml hZ hown (ow_25 hw) (ow_26 hw) (notFace_of_selects (args := #[]) (mvT hZ (ow_28 hw))) (ow_28 hw) (ow_27 hw) (ow_5 hw) (ow_29 hw) (by decide) (cc := 0) (ss := 0) (rm_k1 l Z a0 hw b3 h7 n0 (Nat.le_trans Z0 Ea8.1) B1) 0 rfl rfl (by decide) (by decide) rfl Br (argsL := []) (rest := []) opd_6 rfl rfl (Nat.le_refl _) at_243 (pc' := 246) rfl rfl e7 (by decide) (by decide) ?_
            rintro v11 T11 h11 L11 X11 e11 ⟨rfl, Nq11, rfl⟩
            have N11 := N7.app Nq11
            refine own_iload X11 hx hby at_246 (pc' := 248) rfl rfl ?_
            refine own_icmpN X11 hx hby at_248 (pc' := 251) rfl (teq rfl).2 ?_
            refine own_iconst X11 hx hby at_251 (pc' := 252) rfl (z := 1) rfl ?_
            refine own_goto X11 hx hby at_252 (by decide) (pc' := 256) (by decide) ?_
            exact own_retNW X11 hx hby hZ (own_ew hw) e11 SNj2 CHj2 hlk hrt (by simp) at_256 (z' := (1 : Int32)) rfl ⟨rfl, N11⟩ (by decide) (by decide)
        · refine own_ifN Xj2 hx hby at_166 (pc' := 169) rfl (feq hb4).1 ?_
          refine own_newO Xj2 hx hby hZ hown (ow_52 hw) (ow_53 hw) (ow_54 hw) ej2 at_169 (pc' := 172) rfl (by decide) (by decide) ?_
          intro T12 h12 b12 g12 X12 e12 E12 AX12 D12
          have le13 : h0.size ≤ b12 := Nat.le_trans Ej2.1 (Nat.le_of_eq g12.symm)
          have le14 : hj2.size ≤ b12 := Nat.le_of_eq g12.symm
          have n0_b12 : n0 ≤ b12 := Nat.le_trans (Nat.le_trans Z0 Ej2.1) (Nat.le_of_eq g12.symm)
          have Ea15 := own_xt Ej2 E12
          have F_fromEnd_b12 : Fld Z h12 b12 "com/example/kindred/kindred/matching/Preparation$Take" "fromEnd" "Z" (.int (0 : Int32)) := D12 (Or.inr (ow_65 hw)) (ty := .boolean) (by decide)
          have F_count_b12 : Fld Z h12 b12 "com/example/kindred/kindred/matching/Preparation$Take" "count" "I" (.int (0 : Int32)) := D12 (Or.inr (ow_67 hw)) (ty := .int) (by decide)
          refine own_dup X12 hx hby at_172 (pc' := 173) rfl rfl ?_
          refine own_iloadN X12 hx hby at_173 (pc' := 174) rfl rfl ?_
          refine own_bipush X12 hx hby at_174 (pc' := 176) rfl (z := 16) rfl ?_
          refine own_iand X12 hx hby at_176 (pc' := 177) rfl ?_
          refine own_join (α := Int32) (F := fun zt => T12.setTop (mkF m 185 #[.val (.int p1), .val (.int p2), .val (.int p3), .val (.int p4), .val (.int p5), .val (.int z), .val (.int q), .val .null, .val (.int (p4 &&& (3 : Int32))), .val (.ref lx), .val .null, .unset, .unset] [(.int zt), (.ref b12), (.ref b12)])) (P := fun zt => zt = 0 ∨ zt = 1) ?_ ?_
          · intro zt h_zt
            show own_E p.tables e below _ (T12.setTop (mkF m 185 #[.val (.int p1), .val (.int p2), .val (.int p3), .val (.int p4), .val (.int p5), .val (.int z), .val (.int q), .val .null, .val (.int (p4 &&& (3 : Int32))), .val (.ref lx), .val .null, .unset, .unset] [(.int zt), (.ref b12), (.ref b12)]))
            refine own_iconst X12 hx hby at_185 (pc' := 186) rfl (z := 1) rfl ?_
            refine own_iload X12 hx hby at_186 (pc' := 188) rfl rfl ?_
            refine own_ldcI X12 hx hby hZ hown (ow_55 hw) at_188 (pc' := 190) rfl ?_
            refine own_iand X12 hx hby at_190 (pc' := 191) rfl ?_
            refine own_callM X12 hx hby hml hZ hown (ow_56 hw) (ow_57 hw) (ow_58 hw) (ow_59 hw) (by decide) (cc := 0) (ss := 0) (rm_max l Z a0 hw (p5 &&& (2147483647 : Int32)) h12 n0 (Nat.le_trans Z0 Ea15.1)) 3 rfl rfl (by decide) (by decide) rfl (argsL := [(.int (1 : Int32)), (.int (p5 &&& (2147483647 : Int32)))]) (rest := [(.int zt), (.ref b12), (.ref b12)]) opd_7 rfl rfl (Nat.le_refl _) at_191 (pc' := 194) rfl rfl e12 (by decide) (by decide) ?_
            rintro v17 T17 h17 L17 X17 e17 ⟨ct, rfl, hct, Nq17, rfl⟩
            have N17 := Nj2.app Nq17
            refine own_specM X17 hx hby hml hZ hown rfl (ow_60 hw) (ow_61 hw) (ow_54 hw) (ow_62 hw) (by decide) (cc := 0) (ss := 0) (rm_take l Z a0 hw b12 zt ct h12 n0 (Nat.le_trans Z0 Ea15.1) (own_bool h_zt) hct n0_b12 AX12 F_fromEnd_b12 F_count_b12) 1 rfl rfl (by decide) (by decide) rfl (argsL := [(.int zt), (.int ct)]) (rest := [(.ref b12)]) opd_8 rfl rfl (Nat.le_refl _) at_194 (pc' := 197) rfl rfl e17 (by decide) (by decide) ?_
            rintro v18 T18 h18 L18 X18 e18 ⟨rfl, Nq18, Kq18, Tr, T1_, T2_⟩
            have N18 := N17.app Nq18
            have Ea19 := own_xk Ea15 Kq18 (allS le13 all0)
            have Ea20 := own_xk E12 Kq18 (allS le14 all0)
            replace fj2_0 := fj2_0.ext Ea20
            replace fj2_1 := fj2_1.ext Ea20
            replace fj2_2 := fj2_2.ext Ea20
            replace fj2_3 := fj2_3.ext Ea20
            replace fj2_4 := fj2_4.ext Ea20
            replace SNj2 := SNj2.ext Ea20
            replace CHj2 := CHj2.ext Ea20
            refine own_astore X18 hx hby at_197 (pc' := 199) rfl rfl (Ls' := #[.val (.int p1), .val (.int p2), .val (.int p3), .val (.int p4), .val (.int p5), .val (.int z), .val (.int q), .val .null, .val (.int (p4 &&& (3 : Int32))), .val (.ref lx), .val (.ref b12), .unset, .unset]) rfl ?_
            refine own_newO X18 hx hby hZ hown (ow_3 hw) (ow_4 hw) (ow_5 hw) e18 at_199 (pc' := 202) rfl (by decide) (by decide) ?_
            intro T21 h21 b21 g21 X21 e21 E21 AX21 D21
            have le22 : h0.size ≤ b21 := Nat.le_trans Ea19.1 (Nat.le_of_eq g21.symm)
            have le23 : h18.size ≤ b21 := Nat.le_of_eq g21.symm
            have n0_b21 : n0 ≤ b21 := Nat.le_trans (Nat.le_trans Z0 Ea19.1) (Nat.le_of_eq g21.symm)
            have Ea24 := own_xt Ea19 E21
            have F_removeSpaces_b21 : Fld Z h21 b21 "com/example/kindred/kindred/matching/Preparation" "removeSpaces" "Z" (.int (0 : Int32)) := D21 (Or.inr (ow_18 hw)) (ty := .boolean) (by decide)
            have F_keep_b21 : Fld Z h21 b21 "com/example/kindred/kindred/matching/Preparation" "keep" "Ljava/lang/String;" .null := D21 (Or.inr (ow_20 hw)) (ty := (.object "java/lang/String")) (by decide)
            have F_letterCase_b21 : Fld Z h21 b21 "com/example/kindred/kindred/matching/Preparation" "letterCase" "Lcom/example/kindred/kindred/matching/Preparation$LetterCase;" .null := D21 (Or.inr (ow_22 hw)) (ty := (.object "com/example/kindred/kindred/matching/Preparation$LetterCase")) (by decide)
            have F_take_b21 : Fld Z h21 b21 "com/example/kindred/kindred/matching/Preparation" "take" "Lcom/example/kindred/kindred/matching/Preparation$Take;" .null := D21 (Or.inr (ow_24 hw)) (ty := (.object "com/example/kindred/kindred/matching/Preparation$Take")) (by decide)
            refine own_dup X21 hx hby at_202 (pc' := 203) rfl rfl ?_
            refine own_iload X21 hx hby at_203 (pc' := 205) rfl rfl ?_
            refine own_aload X21 hx hby at_205 (pc' := 207) rfl rfl rfl ?_
            refine own_aload X21 hx hby at_207 (pc' := 209) rfl rfl rfl ?_
            refine own_aload X21 hx hby at_209 (pc' := 211) rfl rfl rfl ?_
            refine own_specM X21 hx hby hml hZ hown rfl (ow_6 hw) (ow_7 hw) (ow_5 hw) (ow_8 hw) (by decide) (cc := 0) (ss := 0) (rm_prepNR l Z a0 hw b21 z lx b12 h21 n0 (Nat.le_trans Z0 Ea24.1) (own_bool h_z) n0_b21 AX21 F_removeSpaces_b21 F_keep_b21 F_letterCase_b21 F_take_b21) 1 rfl rfl (by decide) (by decide) rfl (argsL := [(.int z), .null, (.ref lx), (.ref b12)]) (rest := [(.ref b21)]) opd_5 rfl rfl (Nat.le_refl _) at_211 (pc' := 214) rfl rfl e21 (by decide) (by decide) ?_
            rintro v25 T25 h25 L25 X25 e25 ⟨rfl, Nq25, Kq25, Br, B1, B2, B3, B4⟩
            have N25 := N18.app Nq25
            have Ea26 := own_xk Ea24 Kq25 (allS le22 all0)
            have Ea27 := own_xk E21 Kq25 (allS le23 all0)
            replace fj2_0 := fj2_0.ext Ea27
            replace fj2_1 := fj2_1.ext Ea27
            replace fj2_2 := fj2_2.ext Ea27
            replace fj2_3 := fj2_3.ext Ea27
            replace fj2_4 := fj2_4.ext Ea27
            replace SNj2 := SNj2.ext Ea27
            replace CHj2 := CHj2.ext Ea27
            refine own_astore X25 hx hby at_214 (pc' := 216) rfl rfl (Ls' := #[.val (.int p1), .val (.int p2), .val (.int p3), .val (.int p4), .val (.int p5), .val (.int z), .val (.int q), .val .null, .val (.int (p4 &&& (3 : Int32))), .val (.ref lx), .val (.ref b12), .val (.ref b21), .unset]) rfl ?_
            refine own_iload X25 hx hby at_216 (pc' := 218) rfl rfl ?_
            rcases h_z with rfl | rfl
            · refine own_ifY X25 hx hby at_218 (by decide) (pc' := 227) (by decide) (teq rfl).1 ?_
              refine own_iload X25 hx hby at_227 (pc' := 229) rfl rfl ?_
              refine own_ifY X25 hx hby at_229 (by decide) (pc' := 238) (by decide) (teq hq0).1 ?_
              refine own_iconst X25 hx hby at_238 (pc' := 239) rfl (z := 1) rfl ?_
              refine own_istore X25 hx hby at_239 (pc' := 241) rfl (Ls' := #[.val (.int p1), .val (.int p2), .val (.int p3), .val (.int p4), .val (.int p5), .val (.int (0 : Int32)), .val (.int q), .val .null, .val (.int (p4 &&& (3 : Int32))), .val (.ref lx), .val (.ref b12), .val (.ref b21), .val (.int (1 : Int32))]) rfl ?_
              refine own_aload X25 hx hby at_241 (pc' := 243) rfl rfl rfl ?_
              refine own_virtM X25 hx hby hml hZ hown (ow_25 hw) (ow_26 hw) (notFace_of_selects (args := #[]) (mvT hZ (ow_28 hw))) (ow_28 hw) (ow_27 hw) (ow_5 hw) (ow_29 hw) (by decide) (cc := 0) (ss := 0) (rm_k0N l Z a0 hw b21 h25 n0 (Nat.le_trans Z0 Ea26.1) B1 B2) 0 rfl rfl (by decide) (by decide) rfl Br (argsL := []) (rest := []) opd_6 rfl rfl (Nat.le_refl _) at_243 (pc' := 246) rfl rfl e25 (by decide) (by decide) ?_
              rintro v28 T28 h28 L28 X28 e28 ⟨rfl, Nq28, rfl⟩
              have N28 := N25.app Nq28
              refine own_iload X28 hx hby at_246 (pc' := 248) rfl rfl ?_
              refine own_icmpN X28 hx hby at_248 (pc' := 251) rfl (teq rfl).2 ?_
              refine own_iconst X28 hx hby at_251 (pc' := 252) rfl (z := 1) rfl ?_
              refine own_goto X28 hx hby at_252 (by decide) (pc' := 256) (by decide) ?_
              exact own_retNW X28 hx hby hZ (own_ew hw) e28 SNj2 CHj2 hlk hrt (by simp) at_256 (z' := (1 : Int32)) rfl ⟨rfl, N28⟩ (by decide) (by decide)
            · refine own_ifN X25 hx hby at_218 (pc' := 221) rfl (feq (by decide)).1 ?_
              refine own_iconst X25 hx hby at_221 (pc' := 222) rfl (z := 0) rfl ?_
              refine own_istore X25 hx hby at_222 (pc' := 224) rfl (Ls' := #[.val (.int p1), .val (.int p2), .val (.int p3), .val (.int p4), .val (.int p5), .val (.int (1 : Int32)), .val (.int q), .val .null, .val (.int (p4 &&& (3 : Int32))), .val (.ref lx), .val (.ref b12), .val (.ref b21), .val (.int (0 : Int32))]) rfl ?_
              refine own_goto X25 hx hby at_224 (by decide) (pc' := 241) (by decide) ?_
              refine own_aload X25 hx hby at_241 (pc' := 243) rfl rfl rfl ?_
              refine own_virtM X25 hx hby hml hZ hown (ow_25 hw) (ow_26 hw) (notFace_of_selects (args := #[]) (mvT hZ (ow_28 hw))) (ow_28 hw) (ow_27 hw) (ow_5 hw) (ow_29 hw) (by decide) (cc := 0) (ss := 0) (rm_k1 l Z a0 hw b21 h25 n0 (Nat.le_trans Z0 Ea26.1) B1) 0 rfl rfl (by decide) (by decide) rfl Br (argsL := []) (rest := []) opd_6 rfl rfl (Nat.le_refl _) at_243 (pc' := 246) rfl rfl e25 (by decide) (by decide) ?_
              rintro v29 T29 h29 L29 X29 e29 ⟨rfl, Nq29, rfl⟩
              have N29 := N25.app Nq29
              refine own_iload X29 hx hby at_246 (pc' := 248) rfl rfl ?_
              refine own_icmpN X29 hx hby at_248 (pc' := 251) rfl (teq rfl).2 ?_
              refine own_iconst X29 hx hby at_251 (pc' := 252) rfl (z := 1) rfl ?_
              refine own_goto X29 hx hby at_252 (by decide) (pc' := 256) (by decide) ?_
              exact own_retNW X29 hx hby hZ (own_ew hw) e29 SNj2 CHj2 hlk hrt (by simp) at_256 (z' := (1 : Int32)) rfl ⟨rfl, N29⟩ (by decide) (by decide)
          · intro J16
            by_cases hb5 : (p1 &&& (16 : Int32)) = (0 : Int32)
            · refine own_ifY X12 hx hby at_177 (by decide) (pc' := 184) (by decide) (teq hb5).1 ?_
              refine own_iconst X12 hx hby at_184 (pc' := 185) rfl (z := 0) rfl ?_
              exact J16 _ (Or.inl rfl)
            · refine own_ifN X12 hx hby at_177 (pc' := 180) rfl (feq hb5).1 ?_
              refine own_iconst X12 hx hby at_180 (pc' := 181) rfl (z := 1) rfl ?_
              refine own_goto X12 hx hby at_181 (by decide) (pc' := 185) (by decide) ?_
              exact J16 _ (Or.inr rfl)
      by_cases hl0 : (p4 &&& (3 : Int32)) = (0 : Int32)
      · refine own_ifN X0 hx hby at_115 (pc' := 118) rfl (teq hl0).2 ?_
        refine own_getS X0 hx hby hZ hown (host := "") (Or.inl (ow_68 hw)) Via.refl e0 S_INSENSITIVE at_118 (pc' := 121) rfl ?_
        intro T30 X30 e30
        refine own_astore X30 hx hby at_121 (pc' := 123) rfl rfl (Ls' := #[.val (.int p1), .val (.int p2), .val (.int p3), .val (.int p4), .val (.int p5), .val (.int z), .val (.int q), .val .null, .val (.int (p4 &&& (3 : Int32))), .val (.ref g_INSENSITIVE), .unset, .unset, .unset]) rfl ?_
        refine own_goto X30 hx hby at_123 (by decide) (pc' := 159) (by decide) ?_
        exact J2 _ _ _ _ g_INSENSITIVE (X30.mono (by decide) (by decide)) e30 hZ hown SN CH own_xr N0 S_cs S_INSENSITIVE S_AS_IS S_UPPER S_LOWER
      · refine own_ifY X0 hx hby at_115 (by decide) (pc' := 126) (by decide) (feq hl0).2 ?_
        refine own_iload X0 hx hby at_126 (pc' := 128) rfl rfl ?_
        refine own_iconst X0 hx hby at_128 (pc' := 129) rfl (z := 1) rfl ?_
        by_cases hl1 : (p4 &&& (3 : Int32)) = (1 : Int32)
        · refine own_icmpN X0 hx hby at_129 (pc' := 132) rfl (teq hl1).2 ?_
          refine own_getS X0 hx hby hZ hown (host := "") (Or.inl (ow_0 hw)) Via.refl e0 S_AS_IS at_132 (pc' := 135) rfl ?_
          intro T31 X31 e31
          refine own_astore X31 hx hby at_135 (pc' := 137) rfl rfl (Ls' := #[.val (.int p1), .val (.int p2), .val (.int p3), .val (.int p4), .val (.int p5), .val (.int z), .val (.int q), .val .null, .val (.int (p4 &&& (3 : Int32))), .val (.ref g_AS_IS), .unset, .unset, .unset]) rfl ?_
          refine own_goto X31 hx hby at_137 (by decide) (pc' := 159) (by decide) ?_
          exact J2 _ _ _ _ g_AS_IS (X31.mono (by decide) (by decide)) e31 hZ hown SN CH own_xr N0 S_cs S_INSENSITIVE S_AS_IS S_UPPER S_LOWER
        · refine own_icmpY X0 hx hby at_129 (by decide) (pc' := 140) (by decide) (feq hl1).2 ?_
          refine own_iload X0 hx hby at_140 (pc' := 142) rfl rfl ?_
          refine own_iconst X0 hx hby at_142 (pc' := 143) rfl (z := 2) rfl ?_
          by_cases hl2 : (p4 &&& (3 : Int32)) = (2 : Int32)
          · refine own_icmpN X0 hx hby at_143 (pc' := 146) rfl (teq hl2).2 ?_
            refine own_getS X0 hx hby hZ hown (host := "") (Or.inl (ow_81 hw)) Via.refl e0 S_UPPER at_146 (pc' := 149) rfl ?_
            intro T32 X32 e32
            refine own_astore X32 hx hby at_149 (pc' := 151) rfl rfl (Ls' := #[.val (.int p1), .val (.int p2), .val (.int p3), .val (.int p4), .val (.int p5), .val (.int z), .val (.int q), .val .null, .val (.int (p4 &&& (3 : Int32))), .val (.ref g_UPPER), .unset, .unset, .unset]) rfl ?_
            refine own_goto X32 hx hby at_151 (by decide) (pc' := 159) (by decide) ?_
            exact J2 _ _ _ _ g_UPPER (X32.mono (by decide) (by decide)) e32 hZ hown SN CH own_xr N0 S_cs S_INSENSITIVE S_AS_IS S_UPPER S_LOWER
          · refine own_icmpY X0 hx hby at_143 (by decide) (pc' := 154) (by decide) (feq hl2).2 ?_
            refine own_getS X0 hx hby hZ hown (host := "") (Or.inl (ow_50 hw)) Via.refl e0 S_LOWER at_154 (pc' := 157) rfl ?_
            intro T33 X33 e33
            refine own_astore X33 hx hby at_157 (pc' := 159) rfl rfl (Ls' := #[.val (.int p1), .val (.int p2), .val (.int p3), .val (.int p4), .val (.int p5), .val (.int z), .val (.int q), .val .null, .val (.int (p4 &&& (3 : Int32))), .val (.ref g_LOWER), .unset, .unset, .unset]) rfl ?_
            exact J2 _ _ _ _ g_LOWER (X33.mono (by decide) (by decide)) e33 hZ hown SN CH own_xr N0 S_cs S_INSENSITIVE S_AS_IS S_UPPER S_LOWER
    · refine own_ifY X0 hx hby at_22 (by decide) (pc' := 31) (by decide) (feq hq0).2 ?_
      have J34 : ∀ (Tj34 : State) (vmj34 : Vm) (hj34 : Heap) (Lj34 : List Loc) (ka : Addr), Stand p l e room_1 (s.setVm vmj34) m #[(.int p1), (.int p2), (.int p3), (.int p4), (.int p5)] below meth c Tj34 Lj34 16 300 → Tj34.heap = hj34 → Z.Warmed39 vmj34 → vmj34.findClass "com/example/kindred/kindred/matching/PreparationKeepsEveryCharacterPinLaw" = some m.cls → own_Sn s vmj34 hj34 → own_CH Z own_EL s.vm h0 vmj34 hj34 → Ext h0 hj34 → Fr n0 Lj34 → Sta Z hj34 "java/lang/String" "COMPACT_STRINGS" "Z" (.int G1) → Sta Z hj34 "com/example/kindred/kindred/matching/Preparation$LetterCase" "INSENSITIVE" "Lcom/example/kindred/kindred/matching/Preparation$LetterCase;" (.ref g_INSENSITIVE) → Sta Z hj34 "com/example/kindred/kindred/matching/Preparation$LetterCase" "AS_IS" "Lcom/example/kindred/kindred/matching/Preparation$LetterCase;" (.ref g_AS_IS) → Sta Z hj34 "com/example/kindred/kindred/matching/Preparation$LetterCase" "UPPER" "Lcom/example/kindred/kindred/matching/Preparation$LetterCase;" (.ref g_UPPER) → Sta Z hj34 "com/example/kindred/kindred/matching/Preparation$LetterCase" "LOWER" "Lcom/example/kindred/kindred/matching/Preparation$LetterCase;" (.ref g_LOWER) → own_E p.tables e below (own_EndW Z own_EL s h0 below (fun v h L => v = some (.int 1) ∧ Fr n0 L) room_1.cells room_1.slots) (Tj34.setTop (mkF m 113 #[.val (.int p1), .val (.int p2), .val (.int p3), .val (.int p4), .val (.int p5), .val (.int z), .val (.int q), .val (.ref ka), .val (.int (p4 &&& (3 : Int32))), .unset, .unset, .unset, .unset] [])) := by
        intro Tj34 vmj34 hj34 Lj34 ka Xj34 ej34 hZ hown SNj34 CHj34 Ej34 Nj34 fj34_0 fj34_1 fj34_2 fj34_3 fj34_4
        refine own_iload Xj34 hx hby at_113 (pc' := 115) rfl rfl ?_
        have J35 : ∀ (Tj35 : State) (vmj35 : Vm) (hj35 : Heap) (Lj35 : List Loc) (lx : Addr), Stand p l e room_1 (s.setVm vmj35) m #[(.int p1), (.int p2), (.int p3), (.int p4), (.int p5)] below meth c Tj35 Lj35 16 700 → Tj35.heap = hj35 → Z.Warmed39 vmj35 → vmj35.findClass "com/example/kindred/kindred/matching/PreparationKeepsEveryCharacterPinLaw" = some m.cls → own_Sn s vmj35 hj35 → own_CH Z own_EL s.vm h0 vmj35 hj35 → Ext h0 hj35 → Fr n0 Lj35 → Sta Z hj35 "java/lang/String" "COMPACT_STRINGS" "Z" (.int G1) → Sta Z hj35 "com/example/kindred/kindred/matching/Preparation$LetterCase" "INSENSITIVE" "Lcom/example/kindred/kindred/matching/Preparation$LetterCase;" (.ref g_INSENSITIVE) → Sta Z hj35 "com/example/kindred/kindred/matching/Preparation$LetterCase" "AS_IS" "Lcom/example/kindred/kindred/matching/Preparation$LetterCase;" (.ref g_AS_IS) → Sta Z hj35 "com/example/kindred/kindred/matching/Preparation$LetterCase" "UPPER" "Lcom/example/kindred/kindred/matching/Preparation$LetterCase;" (.ref g_UPPER) → Sta Z hj35 "com/example/kindred/kindred/matching/Preparation$LetterCase" "LOWER" "Lcom/example/kindred/kindred/matching/Preparation$LetterCase;" (.ref g_LOWER) → own_E p.tables e below (own_EndW Z own_EL s h0 below (fun v h L => v = some (.int 1) ∧ Fr n0 L) room_1.cells room_1.slots) (Tj35.setTop (mkF m 159 #[.val (.int p1), .val (.int p2), .val (.int p3), .val (.int p4), .val (.int p5), .val (.int z), .val (.int q), .val (.ref ka), .val (.int (p4 &&& (3 : Int32))), .val (.ref lx), .unset, .unset, .unset] [])) := by
          intro Tj35 vmj35 hj35 Lj35 lx Xj35 ej35 hZ hown SNj35 CHj35 Ej35 Nj35 fj35_0 fj35_1 fj35_2 fj35_3 fj35_4
          refine own_aconst_null Xj35 hx hby at_159 (pc' := 160) rfl ?_
          refine own_astore Xj35 hx hby at_160 (pc' := 162) rfl rfl (Ls' := #[.val (.int p1), .val (.int p2), .val (.int p3), .val (.int p4), .val (.int p5), .val (.int z), .val (.int q), .val (.ref ka), .val (.int (p4 &&& (3 : Int32))), .val (.ref lx), .val .null, .unset, .unset]) rfl ?_
          refine own_iloadN Xj35 hx hby at_162 (pc' := 163) rfl rfl ?_
          refine own_bipush Xj35 hx hby at_163 (pc' := 165) rfl (z := 8) rfl ?_
          refine own_iand Xj35 hx hby at_165 (pc' := 166) rfl ?_
          by_cases hb4 : (p1 &&& (8 : Int32)) = (0 : Int32)
          · refine own_ifY Xj35 hx hby at_166 (by decide) (pc' := 199) (by decide) (teq hb4).1 ?_
            refine own_newO Xj35 hx hby hZ hown (ow_3 hw) (ow_4 hw) (ow_5 hw) ej35 at_199 (pc' := 202) rfl (by decide) (by decide) ?_
            intro T36 h36 b36 g36 X36 e36 E36 AX36 D36
            have le37 : h0.size ≤ b36 := Nat.le_trans Ej35.1 (Nat.le_of_eq g36.symm)
            have le38 : hj35.size ≤ b36 := Nat.le_of_eq g36.symm
            have n0_b36 : n0 ≤ b36 := Nat.le_trans (Nat.le_trans Z0 Ej35.1) (Nat.le_of_eq g36.symm)
            have Ea39 := own_xt Ej35 E36
            have F_removeSpaces_b36 : Fld Z h36 b36 "com/example/kindred/kindred/matching/Preparation" "removeSpaces" "Z" (.int (0 : Int32)) := D36 (Or.inr (ow_18 hw)) (ty := .boolean) (by decide)
            have F_keep_b36 : Fld Z h36 b36 "com/example/kindred/kindred/matching/Preparation" "keep" "Ljava/lang/String;" .null := D36 (Or.inr (ow_20 hw)) (ty := (.object "java/lang/String")) (by decide)
            have F_letterCase_b36 : Fld Z h36 b36 "com/example/kindred/kindred/matching/Preparation" "letterCase" "Lcom/example/kindred/kindred/matching/Preparation$LetterCase;" .null := D36 (Or.inr (ow_22 hw)) (ty := (.object "com/example/kindred/kindred/matching/Preparation$LetterCase")) (by decide)
            have F_take_b36 : Fld Z h36 b36 "com/example/kindred/kindred/matching/Preparation" "take" "Lcom/example/kindred/kindred/matching/Preparation$Take;" .null := D36 (Or.inr (ow_24 hw)) (ty := (.object "com/example/kindred/kindred/matching/Preparation$Take")) (by decide)
            refine own_dup X36 hx hby at_202 (pc' := 203) rfl rfl ?_
            refine own_iload X36 hx hby at_203 (pc' := 205) rfl rfl ?_
            refine own_aload X36 hx hby at_205 (pc' := 207) rfl rfl rfl ?_
            refine own_aload X36 hx hby at_207 (pc' := 209) rfl rfl rfl ?_
            refine own_aload X36 hx hby at_209 (pc' := 211) rfl rfl rfl ?_
            refine own_specM X36 hx hby hml hZ hown rfl (ow_6 hw) (ow_7 hw) (ow_5 hw) (ow_8 hw) (by decide) (cc := 0) (ss := 0) (rm_prepRN l Z a0 hw b36 z lx ka h36 n0 (Nat.le_trans Z0 Ea39.1) (own_bool h_z) n0_b36 AX36 F_removeSpaces_b36 F_keep_b36 F_letterCase_b36 F_take_b36) 1 rfl rfl (by decide) (by decide) rfl (argsL := [(.int z), (.ref ka), (.ref lx), .null]) (rest := [(.ref b36)]) opd_5 rfl rfl (Nat.le_refl _) at_211 (pc' := 214) rfl rfl e36 (by decide) (by decide) ?_
            rintro v40 T40 h40 L40 X40 e40 ⟨rfl, Nq40, Kq40, Br, B1, B2, B3, B4⟩
            have N40 := Nj35.app Nq40
            have Ea41 := own_xk Ea39 Kq40 (allS le37 all0)
            have Ea42 := own_xk E36 Kq40 (allS le38 all0)
            replace fj35_0 := fj35_0.ext Ea42
            replace fj35_1 := fj35_1.ext Ea42
            replace fj35_2 := fj35_2.ext Ea42
            replace fj35_3 := fj35_3.ext Ea42
            replace fj35_4 := fj35_4.ext Ea42
            replace SNj35 := SNj35.ext Ea42
            replace CHj35 := CHj35.ext Ea42
            refine own_astore X40 hx hby at_214 (pc' := 216) rfl rfl (Ls' := #[.val (.int p1), .val (.int p2), .val (.int p3), .val (.int p4), .val (.int p5), .val (.int z), .val (.int q), .val (.ref ka), .val (.int (p4 &&& (3 : Int32))), .val (.ref lx), .val .null, .val (.ref b36), .unset]) rfl ?_
            refine own_iload X40 hx hby at_216 (pc' := 218) rfl rfl ?_
            rcases h_z with rfl | rfl
            · refine own_ifY X40 hx hby at_218 (by decide) (pc' := 227) (by decide) (teq rfl).1 ?_
              refine own_iload X40 hx hby at_227 (pc' := 229) rfl rfl ?_
              refine own_ifN X40 hx hby at_229 (pc' := 232) rfl (feq hq0).1 ?_
              refine own_iconst X40 hx hby at_232 (pc' := 233) rfl (z := 0) rfl ?_
              refine own_istore X40 hx hby at_233 (pc' := 235) rfl (Ls' := #[.val (.int p1), .val (.int p2), .val (.int p3), .val (.int p4), .val (.int p5), .val (.int (0 : Int32)), .val (.int q), .val (.ref ka), .val (.int (p4 &&& (3 : Int32))), .val (.ref lx), .val .null, .val (.ref b36), .val (.int (0 : Int32))]) rfl ?_
              refine own_goto X40 hx hby at_235 (by decide) (pc' := 241) (by decide) ?_
              refine own_aload X40 hx hby at_241 (pc' := 243) rfl rfl rfl ?_
              refine own_virtM X40 hx hby hml hZ hown (ow_25 hw) (ow_26 hw) (notFace_of_selects (args := #[]) (mvT hZ (ow_28 hw))) (ow_28 hw) (ow_27 hw) (ow_5 hw) (ow_29 hw) (by decide) (cc := 0) (ss := 0) (rm_k0R l Z a0 hw b36 ka h40 n0 (Nat.le_trans Z0 Ea41.1) B1 B2) 0 rfl rfl (by decide) (by decide) rfl Br (argsL := []) (rest := []) opd_6 rfl rfl (Nat.le_refl _) at_243 (pc' := 246) rfl rfl e40 (by decide) (by decide) ?_
              rintro v43 T43 h43 L43 X43 e43 ⟨rfl, Nq43, rfl⟩
              have N43 := N40.app Nq43
              refine own_iload X43 hx hby at_246 (pc' := 248) rfl rfl ?_
              refine own_icmpN X43 hx hby at_248 (pc' := 251) rfl (teq rfl).2 ?_
              refine own_iconst X43 hx hby at_251 (pc' := 252) rfl (z := 1) rfl ?_
              refine own_goto X43 hx hby at_252 (by decide) (pc' := 256) (by decide) ?_
              exact own_retNW X43 hx hby hZ (own_ew hw) e43 SNj35 CHj35 hlk hrt (by simp) at_256 (z' := (1 : Int32)) rfl ⟨rfl, N43⟩ (by decide) (by decide)
            · refine own_ifN X40 hx hby at_218 (pc' := 221) rfl (feq (by decide)).1 ?_
              refine own_iconst X40 hx hby at_221 (pc' := 222) rfl (z := 0) rfl ?_
              refine own_istore X40 hx hby at_222 (pc' := 224) rfl (Ls' := #[.val (.int p1), .val (.int p2), .val (.int p3), .val (.int p4), .val (.int p5), .val (.int (1 : Int32)), .val (.int q), .val (.ref ka), .val (.int (p4 &&& (3 : Int32))), .val (.ref lx), .val .null, .val (.ref b36), .val (.int (0 : Int32))]) rfl ?_
              refine own_goto X40 hx hby at_224 (by decide) (pc' := 241) (by decide) ?_
              refine own_aload X40 hx hby at_241 (pc' := 243) rfl rfl rfl ?_
              refine own_virtM X40 hx hby hml hZ hown (ow_25 hw) (ow_26 hw) (notFace_of_selects (args := #[]) (mvT hZ (ow_28 hw))) (ow_28 hw) (ow_27 hw) (ow_5 hw) (ow_29 hw) (by decide) (cc := 0) (ss := 0) (rm_k1 l Z a0 hw b36 h40 n0 (Nat.le_trans Z0 Ea41.1) B1) 0 rfl rfl (by decide) (by decide) rfl Br (argsL := []) (rest := []) opd_6 rfl rfl (Nat.le_refl _) at_243 (pc' := 246) rfl rfl e40 (by decide) (by decide) ?_
              rintro v44 T44 h44 L44 X44 e44 ⟨rfl, Nq44, rfl⟩
              have N44 := N40.app Nq44
              refine own_iload X44 hx hby at_246 (pc' := 248) rfl rfl ?_
              refine own_icmpN X44 hx hby at_248 (pc' := 251) rfl (teq rfl).2 ?_
              refine own_iconst X44 hx hby at_251 (pc' := 252) rfl (z := 1) rfl ?_
              refine own_goto X44 hx hby at_252 (by decide) (pc' := 256) (by decide) ?_
              exact own_retNW X44 hx hby hZ (own_ew hw) e44 SNj35 CHj35 hlk hrt (by simp) at_256 (z' := (1 : Int32)) rfl ⟨rfl, N44⟩ (by decide) (by decide)
          · refine own_ifN Xj35 hx hby at_166 (pc' := 169) rfl (feq hb4).1 ?_
            refine own_newO Xj35 hx hby hZ hown (ow_52 hw) (ow_53 hw) (ow_54 hw) ej35 at_169 (pc' := 172) rfl (by decide) (by decide) ?_
            intro T45 h45 b45 g45 X45 e45 E45 AX45 D45
            have le46 : h0.size ≤ b45 := Nat.le_trans Ej35.1 (Nat.le_of_eq g45.symm)
            have le47 : hj35.size ≤ b45 := Nat.le_of_eq g45.symm
            have n0_b45 : n0 ≤ b45 := Nat.le_trans (Nat.le_trans Z0 Ej35.1) (Nat.le_of_eq g45.symm)
            have Ea48 := own_xt Ej35 E45
            have F_fromEnd_b45 : Fld Z h45 b45 "com/example/kindred/kindred/matching/Preparation$Take" "fromEnd" "Z" (.int (0 : Int32)) := D45 (Or.inr (ow_65 hw)) (ty := .boolean) (by decide)
            have F_count_b45 : Fld Z h45 b45 "com/example/kindred/kindred/matching/Preparation$Take" "count" "I" (.int (0 : Int32)) := D45 (Or.inr (ow_67 hw)) (ty := .int) (by decide)
            refine own_dup X45 hx hby at_172 (pc' := 173) rfl rfl ?_
            refine own_iloadN X45 hx hby at_173 (pc' := 174) rfl rfl ?_
            refine own_bipush X45 hx hby at_174 (pc' := 176) rfl (z := 16) rfl ?_
            refine own_iand X45 hx hby at_176 (pc' := 177) rfl ?_
            refine own_join (α := Int32) (F := fun zt => T45.setTop (mkF m 185 #[.val (.int p1), .val (.int p2), .val (.int p3), .val (.int p4), .val (.int p5), .val (.int z), .val (.int q), .val (.ref ka), .val (.int (p4 &&& (3 : Int32))), .val (.ref lx), .val .null, .unset, .unset] [(.int zt), (.ref b45), (.ref b45)])) (P := fun zt => zt = 0 ∨ zt = 1) ?_ ?_
            · intro zt h_zt
              show own_E p.tables e below _ (T45.setTop (mkF m 185 #[.val (.int p1), .val (.int p2), .val (.int p3), .val (.int p4), .val (.int p5), .val (.int z), .val (.int q), .val (.ref ka), .val (.int (p4 &&& (3 : Int32))), .val (.ref lx), .val .null, .unset, .unset] [(.int zt), (.ref b45), (.ref b45)]))
              refine own_iconst X45 hx hby at_185 (pc' := 186) rfl (z := 1) rfl ?_
              refine own_iload X45 hx hby at_186 (pc' := 188) rfl rfl ?_
              refine own_ldcI X45 hx hby hZ hown (ow_55 hw) at_188 (pc' := 190) rfl ?_
              refine own_iand X45 hx hby at_190 (pc' := 191) rfl ?_
              refine own_callM X45 hx hby hml hZ hown (ow_56 hw) (ow_57 hw) (ow_58 hw) (ow_59 hw) (by decide) (cc := 0) (ss := 0) (rm_max l Z a0 hw (p5 &&& (2147483647 : Int32)) h45 n0 (Nat.le_trans Z0 Ea48.1)) 3 rfl rfl (by decide) (by decide) rfl (argsL := [(.int (1 : Int32)), (.int (p5 &&& (2147483647 : Int32)))]) (rest := [(.int zt), (.ref b45), (.ref b45)]) opd_7 rfl rfl (Nat.le_refl _) at_191 (pc' := 194) rfl rfl e45 (by decide) (by decide) ?_
              rintro v50 T50 h50 L50 X50 e50 ⟨ct, rfl, hct, Nq50, rfl⟩
              have N50 := Nj35.app Nq50
              refine own_specM X50 hx hby hml hZ hown rfl (ow_60 hw) (ow_61 hw) (ow_54 hw) (ow_62 hw) (by decide) (cc := 0) (ss := 0) (rm_take l Z a0 hw b45 zt ct h45 n0 (Nat.le_trans Z0 Ea48.1) (own_bool h_zt) hct n0_b45 AX45 F_fromEnd_b45 F_count_b45) 1 rfl rfl (by decide) (by decide) rfl (argsL := [(.int zt), (.int ct)]) (rest := [(.ref b45)]) opd_8 rfl rfl (Nat.le_refl _) at_194 (pc' := 197) rfl rfl e50 (by decide) (by decide) ?_
              rintro v51 T51 h51 L51 X51 e51 ⟨rfl, Nq51, Kq51, Tr, T1_, T2_⟩
              have N51 := N50.app Nq51
              have Ea52 := own_xk Ea48 Kq51 (allS le46 all0)
              have Ea53 := own_xk E45 Kq51 (allS le47 all0)
              replace fj35_0 := fj35_0.ext Ea53
              replace fj35_1 := fj35_1.ext Ea53
              replace fj35_2 := fj35_2.ext Ea53
              replace fj35_3 := fj35_3.ext Ea53
              replace fj35_4 := fj35_4.ext Ea53
              replace SNj35 := SNj35.ext Ea53
              replace CHj35 := CHj35.ext Ea53
              refine own_astore X51 hx hby at_197 (pc' := 199) rfl rfl (Ls' := #[.val (.int p1), .val (.int p2), .val (.int p3), .val (.int p4), .val (.int p5), .val (.int z), .val (.int q), .val (.ref ka), .val (.int (p4 &&& (3 : Int32))), .val (.ref lx), .val (.ref b45), .unset, .unset]) rfl ?_
              refine own_newO X51 hx hby hZ hown (ow_3 hw) (ow_4 hw) (ow_5 hw) e51 at_199 (pc' := 202) rfl (by decide) (by decide) ?_
              intro T54 h54 b54 g54 X54 e54 E54 AX54 D54
              have le55 : h0.size ≤ b54 := Nat.le_trans Ea52.1 (Nat.le_of_eq g54.symm)
              have le56 : h51.size ≤ b54 := Nat.le_of_eq g54.symm
              have n0_b54 : n0 ≤ b54 := Nat.le_trans (Nat.le_trans Z0 Ea52.1) (Nat.le_of_eq g54.symm)
              have Ea57 := own_xt Ea52 E54
              have F_removeSpaces_b54 : Fld Z h54 b54 "com/example/kindred/kindred/matching/Preparation" "removeSpaces" "Z" (.int (0 : Int32)) := D54 (Or.inr (ow_18 hw)) (ty := .boolean) (by decide)
              have F_keep_b54 : Fld Z h54 b54 "com/example/kindred/kindred/matching/Preparation" "keep" "Ljava/lang/String;" .null := D54 (Or.inr (ow_20 hw)) (ty := (.object "java/lang/String")) (by decide)
              have F_letterCase_b54 : Fld Z h54 b54 "com/example/kindred/kindred/matching/Preparation" "letterCase" "Lcom/example/kindred/kindred/matching/Preparation$LetterCase;" .null := D54 (Or.inr (ow_22 hw)) (ty := (.object "com/example/kindred/kindred/matching/Preparation$LetterCase")) (by decide)
              have F_take_b54 : Fld Z h54 b54 "com/example/kindred/kindred/matching/Preparation" "take" "Lcom/example/kindred/kindred/matching/Preparation$Take;" .null := D54 (Or.inr (ow_24 hw)) (ty := (.object "com/example/kindred/kindred/matching/Preparation$Take")) (by decide)
              refine own_dup X54 hx hby at_202 (pc' := 203) rfl rfl ?_
              refine own_iload X54 hx hby at_203 (pc' := 205) rfl rfl ?_
              refine own_aload X54 hx hby at_205 (pc' := 207) rfl rfl rfl ?_
              refine own_aload X54 hx hby at_207 (pc' := 209) rfl rfl rfl ?_
              refine own_aload X54 hx hby at_209 (pc' := 211) rfl rfl rfl ?_
              refine own_specM X54 hx hby hml hZ hown rfl (ow_6 hw) (ow_7 hw) (ow_5 hw) (ow_8 hw) (by decide) (cc := 0) (ss := 0) (rm_prepRR l Z a0 hw b54 z lx ka b45 h54 n0 (Nat.le_trans Z0 Ea57.1) (own_bool h_z) n0_b54 AX54 F_removeSpaces_b54 F_keep_b54 F_letterCase_b54 F_take_b54) 1 rfl rfl (by decide) (by decide) rfl (argsL := [(.int z), (.ref ka), (.ref lx), (.ref b45)]) (rest := [(.ref b54)]) opd_5 rfl rfl (Nat.le_refl _) at_211 (pc' := 214) rfl rfl e54 (by decide) (by decide) ?_
              rintro v58 T58 h58 L58 X58 e58 ⟨rfl, Nq58, Kq58, Br, B1, B2, B3, B4⟩
              have N58 := N51.app Nq58
              have Ea59 := own_xk Ea57 Kq58 (allS le55 all0)
              have Ea60 := own_xk E54 Kq58 (allS le56 all0)
              replace fj35_0 := fj35_0.ext Ea60
              replace fj35_1 := fj35_1.ext Ea60
              replace fj35_2 := fj35_2.ext Ea60
              replace fj35_3 := fj35_3.ext Ea60
              replace fj35_4 := fj35_4.ext Ea60
              replace SNj35 := SNj35.ext Ea60
              replace CHj35 := CHj35.ext Ea60
              refine own_astore X58 hx hby at_214 (pc' := 216) rfl rfl (Ls' := #[.val (.int p1), .val (.int p2), .val (.int p3), .val (.int p4), .val (.int p5), .val (.int z), .val (.int q), .val (.ref ka), .val (.int (p4 &&& (3 : Int32))), .val (.ref lx), .val (.ref b45), .val (.ref b54), .unset]) rfl ?_
              refine own_iload X58 hx hby at_216 (pc' := 218) rfl rfl ?_
              rcases h_z with rfl | rfl
              · refine own_ifY X58 hx hby at_218 (by decide) (pc' := 227) (by decide) (teq rfl).1 ?_
                refine own_iload X58 hx hby at_227 (pc' := 229) rfl rfl ?_
                refine own_ifN X58 hx hby at_229 (pc' := 232) rfl (feq hq0).1 ?_
                refine own_iconst X58 hx hby at_232 (pc' := 233) rfl (z := 0) rfl ?_
                refine own_istore X58 hx hby at_233 (pc' := 235) rfl (Ls' := #[.val (.int p1), .val (.int p2), .val (.int p3), .val (.int p4), .val (.int p5), .val (.int (0 : Int32)), .val (.int q), .val (.ref ka), .val (.int (p4 &&& (3 : Int32))), .val (.ref lx), .val (.ref b45), .val (.ref b54), .val (.int (0 : Int32))]) rfl ?_
                refine own_goto X58 hx hby at_235 (by decide) (pc' := 241) (by decide) ?_
                refine own_aload X58 hx hby at_241 (pc' := 243) rfl rfl rfl ?_
                refine own_virtM X58 hx hby hml hZ hown (ow_25 hw) (ow_26 hw) (notFace_of_selects (args := #[]) (mvT hZ (ow_28 hw))) (ow_28 hw) (ow_27 hw) (ow_5 hw) (ow_29 hw) (by decide) (cc := 0) (ss := 0) (rm_k0R l Z a0 hw b54 ka h58 n0 (Nat.le_trans Z0 Ea59.1) B1 B2) 0 rfl rfl (by decide) (by decide) rfl Br (argsL := []) (rest := []) opd_6 rfl rfl (Nat.le_refl _) at_243 (pc' := 246) rfl rfl e58 (by decide) (by decide) ?_
                rintro v61 T61 h61 L61 X61 e61 ⟨rfl, Nq61, rfl⟩
                have N61 := N58.app Nq61
                refine own_iload X61 hx hby at_246 (pc' := 248) rfl rfl ?_
                refine own_icmpN X61 hx hby at_248 (pc' := 251) rfl (teq rfl).2 ?_
                refine own_iconst X61 hx hby at_251 (pc' := 252) rfl (z := 1) rfl ?_
                refine own_goto X61 hx hby at_252 (by decide) (pc' := 256) (by decide) ?_
                exact own_retNW X61 hx hby hZ (own_ew hw) e61 SNj35 CHj35 hlk hrt (by simp) at_256 (z' := (1 : Int32)) rfl ⟨rfl, N61⟩ (by decide) (by decide)
              · refine own_ifN X58 hx hby at_218 (pc' := 221) rfl (feq (by decide)).1 ?_
                refine own_iconst X58 hx hby at_221 (pc' := 222) rfl (z := 0) rfl ?_
                refine own_istore X58 hx hby at_222 (pc' := 224) rfl (Ls' := #[.val (.int p1), .val (.int p2), .val (.int p3), .val (.int p4), .val (.int p5), .val (.int (1 : Int32)), .val (.int q), .val (.ref ka), .val (.int (p4 &&& (3 : Int32))), .val (.ref lx), .val (.ref b45), .val (.ref b54), .val (.int (0 : Int32))]) rfl ?_
                refine own_goto X58 hx hby at_224 (by decide) (pc' := 241) (by decide) ?_
                refine own_aload X58 hx hby at_241 (pc' := 243) rfl rfl rfl ?_
                refine own_virtM X58 hx hby hml hZ hown (ow_25 hw) (ow_26 hw) (notFace_of_selects (args := #[]) (mvT hZ (ow_28 hw))) (ow_28 hw) (ow_27 hw) (ow_5 hw) (ow_29 hw) (by decide) (cc := 0) (ss := 0) (rm_k1 l Z a0 hw b54 h58 n0 (Nat.le_trans Z0 Ea59.1) B1) 0 rfl rfl (by decide) (by decide) rfl Br (argsL := []) (rest := []) opd_6 rfl rfl (Nat.le_refl _) at_243 (pc' := 246) rfl rfl e58 (by decide) (by decide) ?_
                rintro v62 T62 h62 L62 X62 e62 ⟨rfl, Nq62, rfl⟩
                have N62 := N58.app Nq62
                refine own_iload X62 hx hby at_246 (pc' := 248) rfl rfl ?_
                refine own_icmpN X62 hx hby at_248 (pc' := 251) rfl (teq rfl).2 ?_
                refine own_iconst X62 hx hby at_251 (pc' := 252) rfl (z := 1) rfl ?_
                refine own_goto X62 hx hby at_252 (by decide) (pc' := 256) (by decide) ?_
                exact own_retNW X62 hx hby hZ (own_ew hw) e62 SNj35 CHj35 hlk hrt (by simp) at_256 (z' := (1 : Int32)) rfl ⟨rfl, N62⟩ (by decide) (by decide)
            · intro J49
              by_cases hb5 : (p1 &&& (16 : Int32)) = (0 : Int32)
              · refine own_ifY X45 hx hby at_177 (by decide) (pc' := 184) (by decide) (teq hb5).1 ?_
                refine own_iconst X45 hx hby at_184 (pc' := 185) rfl (z := 0) rfl ?_
                exact J49 _ (Or.inl rfl)
              · refine own_ifN X45 hx hby at_177 (pc' := 180) rfl (feq hb5).1 ?_
                refine own_iconst X45 hx hby at_180 (pc' := 181) rfl (z := 1) rfl ?_
                refine own_goto X45 hx hby at_181 (by decide) (pc' := 185) (by decide) ?_
                exact J49 _ (Or.inr rfl)
        by_cases hl0 : (p4 &&& (3 : Int32)) = (0 : Int32)
        · refine own_ifN Xj34 hx hby at_115 (pc' := 118) rfl (teq hl0).2 ?_
          refine own_getS Xj34 hx hby hZ hown (host := "") (Or.inl (ow_68 hw)) Via.refl ej34 fj34_1 at_118 (pc' := 121) rfl ?_
          intro T63 X63 e63
          refine own_astore X63 hx hby at_121 (pc' := 123) rfl rfl (Ls' := #[.val (.int p1), .val (.int p2), .val (.int p3), .val (.int p4), .val (.int p5), .val (.int z), .val (.int q), .val (.ref ka), .val (.int (p4 &&& (3 : Int32))), .val (.ref g_INSENSITIVE), .unset, .unset, .unset]) rfl ?_
          refine own_goto X63 hx hby at_123 (by decide) (pc' := 159) (by decide) ?_
          exact J35 _ _ _ _ g_INSENSITIVE (X63.mono (by decide) (by decide)) e63 hZ hown SNj34 CHj34 Ej34 Nj34 fj34_0 fj34_1 fj34_2 fj34_3 fj34_4
        · refine own_ifY Xj34 hx hby at_115 (by decide) (pc' := 126) (by decide) (feq hl0).2 ?_
          refine own_iload Xj34 hx hby at_126 (pc' := 128) rfl rfl ?_
          refine own_iconst Xj34 hx hby at_128 (pc' := 129) rfl (z := 1) rfl ?_
          by_cases hl1 : (p4 &&& (3 : Int32)) = (1 : Int32)
          · refine own_icmpN Xj34 hx hby at_129 (pc' := 132) rfl (teq hl1).2 ?_
            refine own_getS Xj34 hx hby hZ hown (host := "") (Or.inl (ow_0 hw)) Via.refl ej34 fj34_2 at_132 (pc' := 135) rfl ?_
            intro T64 X64 e64
            refine own_astore X64 hx hby at_135 (pc' := 137) rfl rfl (Ls' := #[.val (.int p1), .val (.int p2), .val (.int p3), .val (.int p4), .val (.int p5), .val (.int z), .val (.int q), .val (.ref ka), .val (.int (p4 &&& (3 : Int32))), .val (.ref g_AS_IS), .unset, .unset, .unset]) rfl ?_
            refine own_goto X64 hx hby at_137 (by decide) (pc' := 159) (by decide) ?_
            exact J35 _ _ _ _ g_AS_IS (X64.mono (by decide) (by decide)) e64 hZ hown SNj34 CHj34 Ej34 Nj34 fj34_0 fj34_1 fj34_2 fj34_3 fj34_4
          · refine own_icmpY Xj34 hx hby at_129 (by decide) (pc' := 140) (by decide) (feq hl1).2 ?_
            refine own_iload Xj34 hx hby at_140 (pc' := 142) rfl rfl ?_
            refine own_iconst Xj34 hx hby at_142 (pc' := 143) rfl (z := 2) rfl ?_
            by_cases hl2 : (p4 &&& (3 : Int32)) = (2 : Int32)
            · refine own_icmpN Xj34 hx hby at_143 (pc' := 146) rfl (teq hl2).2 ?_
              refine own_getS Xj34 hx hby hZ hown (host := "") (Or.inl (ow_81 hw)) Via.refl ej34 fj34_3 at_146 (pc' := 149) rfl ?_
              intro T65 X65 e65
              refine own_astore X65 hx hby at_149 (pc' := 151) rfl rfl (Ls' := #[.val (.int p1), .val (.int p2), .val (.int p3), .val (.int p4), .val (.int p5), .val (.int z), .val (.int q), .val (.ref ka), .val (.int (p4 &&& (3 : Int32))), .val (.ref g_UPPER), .unset, .unset, .unset]) rfl ?_
              refine own_goto X65 hx hby at_151 (by decide) (pc' := 159) (by decide) ?_
              exact J35 _ _ _ _ g_UPPER (X65.mono (by decide) (by decide)) e65 hZ hown SNj34 CHj34 Ej34 Nj34 fj34_0 fj34_1 fj34_2 fj34_3 fj34_4
            · refine own_icmpY Xj34 hx hby at_143 (by decide) (pc' := 154) (by decide) (feq hl2).2 ?_
              refine own_getS Xj34 hx hby hZ hown (host := "") (Or.inl (ow_50 hw)) Via.refl ej34 fj34_4 at_154 (pc' := 157) rfl ?_
              intro T66 X66 e66
              refine own_astore X66 hx hby at_157 (pc' := 159) rfl rfl (Ls' := #[.val (.int p1), .val (.int p2), .val (.int p3), .val (.int p4), .val (.int p5), .val (.int z), .val (.int q), .val (.ref ka), .val (.int (p4 &&& (3 : Int32))), .val (.ref g_LOWER), .unset, .unset, .unset]) rfl ?_
              exact J35 _ _ _ _ g_LOWER (X66.mono (by decide) (by decide)) e66 hZ hown SNj34 CHj34 Ej34 Nj34 fj34_0 fj34_1 fj34_2 fj34_3 fj34_4
      refine own_iload X0 hx hby at_31 (pc' := 33) rfl rfl ?_
      refine own_iconst X0 hx hby at_33 (pc' := 34) rfl (z := 1) rfl ?_
      by_cases hk1 : q = (1 : Int32)
      · refine own_icmpN X0 hx hby at_34 (pc' := 37) rfl (teq hk1).2 ?_
        refine own_newO X0 hx hby hZ hown (ow_30 hw) (ow_31 hw) (ow_32 hw) e0 at_37 (pc' := 40) rfl (by decide) (by decide) ?_
        intro T67 h67 b67 g67 X67 e67 E67 AX67 D67
        have le68 : h0.size ≤ b67 := Nat.le_of_eq g67.symm
        have n0_b67 : n0 ≤ b67 := Nat.le_trans Z0 (Nat.le_of_eq g67.symm)
        have F_value_b67 : Fld Z h67 b67 "java/lang/String" "value" "[B" .null := D67 (Or.inr (ow_44 hw)) (ty := (.array .byte)) (by decide)
        have F_coder_b67 : Fld Z h67 b67 "java/lang/String" "coder" "B" (.int (0 : Int32)) := D67 (Or.inr (ow_45 hw)) (ty := .byte) (by decide)
        refine own_dup X67 hx hby at_40 (pc' := 41) rfl rfl ?_
        refine own_iconst X67 hx hby at_41 (pc' := 42) rfl (z := 0) rfl ?_
        refine own_newP (aty := .char) X67 hx hby hZ (ow_33 hw) e67 at_42 (pc' := 44) rfl (by decide) (cap := 0) (by decide) (by decide) (by decide) (by decide) ?_
        intro T69 h69 b69 kA69 g69 X69 e69 E69 V_b69
        have le70 : h0.size ≤ b69 := Nat.le_trans E67.1 (Nat.le_of_eq g69.symm)
        have le71 : h67.size ≤ b69 := Nat.le_of_eq g69.symm
        have n0_b69 : n0 ≤ b69 := Nat.le_trans (Nat.le_trans Z0 E67.1) (Nat.le_of_eq g69.symm)
        have Ea72 := own_xt E67 E69
        replace V_b69 : Arv Z h69 b69 kA69 .char (0 : Int32) [] (.int (0 : Int32)) := V_b69
        refine own_specMW X69 hx hby hml hZ hown (SN.ext Ea72) (CH.ext Ea72) rfl (ow_34 hw) (ow_35 hw) (ow_32 hw) (ow_36 hw) (by decide) (cc := 4) (ss := 8) (own_ew hw) (rm_str0 l Z a0 hw b67 b69 kA69 h69 n0 (Nat.le_trans Z0 Ea72.1) n0_b67 (AX67.ext E69) (F_value_b67.ext E69) (F_coder_b67.ext E69) V_b69) 1 rfl rfl (by decide) (by decide) rfl (argsL := [(.ref b69)]) (rest := [(.ref b67)]) opd_9 rfl rfl (Nat.le_refl _) at_44 (pc' := 47) rfl rfl e69 (by decide) (by decide) ?_
        rintro v73 T73 vm73 h73 L73 X73 e73 hZ hown SN73 CH73 gr73 ⟨rfl, Nq73, Kq73, S_b67⟩
        have N73 := N0.app Nq73
        have Ea74 := own_xk Ea72 Kq73 (allS le68 all0)
        replace S_cs := S_cs.ext Ea74
        replace S_INSENSITIVE := S_INSENSITIVE.ext Ea74
        replace S_AS_IS := S_AS_IS.ext Ea74
        replace S_UPPER := S_UPPER.ext Ea74
        replace S_LOWER := S_LOWER.ext Ea74
        have A_b67 := S_b67.exa
        refine own_astore X73 hx hby at_47 (pc' := 49) rfl rfl (Ls' := #[.val (.int p1), .val (.int p2), .val (.int p3), .val (.int p4), .val (.int p5), .val (.int z), .val (.int q), .val (.ref b67), .unset, .unset, .unset, .unset, .unset]) rfl ?_
        refine own_goto X73 hx hby at_49 (by decide) (pc' := 108) (by decide) ?_
        refine own_iloadN X73 hx hby at_108 (pc' := 109) rfl rfl ?_
        refine own_iconst X73 hx hby at_109 (pc' := 110) rfl (z := 3) rfl ?_
        refine own_iand X73 hx hby at_110 (pc' := 111) rfl ?_
        refine own_istore X73 hx hby at_111 (pc' := 113) rfl (Ls' := #[.val (.int p1), .val (.int p2), .val (.int p3), .val (.int p4), .val (.int p5), .val (.int z), .val (.int q), .val (.ref b67), .val (.int (p4 &&& (3 : Int32))), .unset, .unset, .unset, .unset]) rfl ?_
        exact J34 _ _ _ _ b67 (X73.mono (by decide) (by decide)) e73 hZ hown SN73 CH73 Ea74 N73 S_cs S_INSENSITIVE S_AS_IS S_UPPER S_LOWER
      · refine own_icmpY X0 hx hby at_34 (by decide) (pc' := 52) (by decide) (feq hk1).2 ?_
        refine own_iload X0 hx hby at_52 (pc' := 54) rfl rfl ?_
        refine own_iconst X0 hx hby at_54 (pc' := 55) rfl (z := 2) rfl ?_
        by_cases hk2 : q = (2 : Int32)
        · refine own_icmpN X0 hx hby at_55 (pc' := 58) rfl (teq hk2).2 ?_
          refine own_iloadN X0 hx hby at_58 (pc' := 59) rfl rfl ?_
          refine own_sipush X0 hx hby at_59 (pc' := 62) rfl (z := 255) rfl ?_
          refine own_iand X0 hx hby at_62 (pc' := 63) rfl ?_
          refine own_i2cE X0 hx hby at_63 (pc' := 64) rfl (own_mask_c _) ?_
          refine own_callM X0 hx hby hml hZ hown (ow_83 hw) (ow_84 hw) (ow_32 hw) (ow_85 hw) (by decide) (cc := 2) (ss := 5) (rm_valueOf l Z a0 hw (p2 &&& (255 : Int32)) G1 h0 n0 Z0 S_cs P5 (own_mask p2).1 (own_mask p2).2) 0 rfl rfl (by decide) (by decide) rfl (argsL := [(.int (p2 &&& (255 : Int32)))]) (rest := []) opd_10 rfl rfl (Nat.le_refl _) at_64 (pc' := 67) rfl rfl e0 (by decide) (by decide) ?_
          rintro v75 T75 h75 L75 X75 e75 ⟨s3, rfl, _, Eq75, Nq75, Str_s3⟩
          have N75 := N0.app Nq75
          replace SN := SN.ext Eq75
          replace CH := CH.ext Eq75
          replace S_cs := S_cs.ext Eq75
          replace S_INSENSITIVE := S_INSENSITIVE.ext Eq75
          replace S_AS_IS := S_AS_IS.ext Eq75
          replace S_UPPER := S_UPPER.ext Eq75
          replace S_LOWER := S_LOWER.ext Eq75
          refine own_astore X75 hx hby at_67 (pc' := 69) rfl rfl (Ls' := #[.val (.int p1), .val (.int p2), .val (.int p3), .val (.int p4), .val (.int p5), .val (.int z), .val (.int q), .val (.ref s3), .unset, .unset, .unset, .unset, .unset]) rfl ?_
          refine own_goto X75 hx hby at_69 (by decide) (pc' := 108) (by decide) ?_
          refine own_iloadN X75 hx hby at_108 (pc' := 109) rfl rfl ?_
          refine own_iconst X75 hx hby at_109 (pc' := 110) rfl (z := 3) rfl ?_
          refine own_iand X75 hx hby at_110 (pc' := 111) rfl ?_
          refine own_istore X75 hx hby at_111 (pc' := 113) rfl (Ls' := #[.val (.int p1), .val (.int p2), .val (.int p3), .val (.int p4), .val (.int p5), .val (.int z), .val (.int q), .val (.ref s3), .val (.int (p4 &&& (3 : Int32))), .unset, .unset, .unset, .unset]) rfl ?_
          exact J34 _ _ _ _ s3 (X75.mono (by decide) (by decide)) e75 hZ hown SN CH Eq75 N75 S_cs S_INSENSITIVE S_AS_IS S_UPPER S_LOWER
        · refine own_icmpY X0 hx hby at_55 (by decide) (pc' := 72) (by decide) (feq hk2).2 ?_
          refine own_iconst X0 hx hby at_72 (pc' := 73) rfl (z := 2) rfl ?_
          refine own_newP (aty := .char) X0 hx hby hZ (ow_33 hw) e0 at_73 (pc' := 75) rfl (by decide) (cap := 2) (by decide) (by decide) (by decide) (by decide) ?_
          intro T76 h76 b76 kA76 g76 X76 e76 E76 V_b76
          have le77 : h0.size ≤ b76 := Nat.le_of_eq g76.symm
          have n0_b76 : n0 ≤ b76 := Nat.le_trans Z0 (Nat.le_of_eq g76.symm)
          replace V_b76 : Arv Z h76 b76 kA76 .char (2 : Int32) [(.int (0 : Int32)), (.int (0 : Int32))] (.int (0 : Int32)) := V_b76.pad (pad_rep [] (.int (0 : Int32)) 2)
          refine own_astore X76 hx hby at_75 (pc' := 77) rfl rfl (Ls' := #[.val (.int p1), .val (.int p2), .val (.int p3), .val (.int p4), .val (.int p5), .val (.int z), .val (.int q), .unset, .val (.ref b76), .unset, .unset, .unset, .unset]) rfl ?_
          refine own_aload X76 hx hby at_77 (pc' := 79) rfl rfl rfl ?_
          refine own_iconst X76 hx hby at_79 (pc' := 80) rfl (z := 0) rfl ?_
          refine own_iloadN X76 hx hby at_80 (pc' := 81) rfl rfl ?_
          refine own_sipush X76 hx hby at_81 (pc' := 84) rfl (z := 255) rfl ?_
          refine own_iand X76 hx hby at_84 (pc' := 85) rfl ?_
          refine own_i2cE X76 hx hby at_85 (pc' := 86) rfl (own_mask_c _) ?_
          refine own_stC X76 hx hby hZ e76 V_b76 ⟨by decide, by decide⟩ 0 rfl (Nat.le_of_ble_eq_true rfl) at_86 (pc' := 87) rfl ?_
          intro T78 h78 X78 e78 W78 V78_b76
          rw [own_mask_n] at V78_b76
          replace V78_b76 : Arv Z h78 b76 kA76 .char (2 : Int32) [(.int (p2 &&& (255 : Int32))), (.int (0 : Int32))] (.int (0 : Int32)) := V78_b76
          have Ea79 := own_xw E76 W78 le77
          have N78 := own_fr1 (sl := ((0 : Int32)).toNatClampNeg) N0 n0_b76
          refine own_aload X78 hx hby at_87 (pc' := 89) rfl rfl rfl ?_
          refine own_iconst X78 hx hby at_89 (pc' := 90) rfl (z := 1) rfl ?_
          refine own_iloadN X78 hx hby at_90 (pc' := 91) rfl rfl ?_
          refine own_sipush X78 hx hby at_91 (pc' := 94) rfl (z := 255) rfl ?_
          refine own_iand X78 hx hby at_94 (pc' := 95) rfl ?_
          refine own_i2cE X78 hx hby at_95 (pc' := 96) rfl (own_mask_c _) ?_
          refine own_stC X78 hx hby hZ e78 V78_b76 ⟨by decide, by decide⟩ 1 rfl (Nat.le_of_ble_eq_true rfl) at_96 (pc' := 97) rfl ?_
          intro T80 h80 X80 e80 W80 V80_b76
          rw [own_mask_n] at V80_b76
          replace V80_b76 : Arv Z h80 b76 kA76 .char (2 : Int32) [(.int (p2 &&& (255 : Int32))), (.int (p3 &&& (255 : Int32)))] (.int (0 : Int32)) := V80_b76
          have Ea81 := own_xw Ea79 W80 le77
          have N80 := own_fr1 (sl := ((1 : Int32)).toNatClampNeg) N78 n0_b76
          refine own_newO X80 hx hby hZ hown (ow_30 hw) (ow_31 hw) (ow_32 hw) e80 at_97 (pc' := 100) rfl (by decide) (by decide) ?_
          intro T82 h82 b82 g82 X82 e82 E82 AX82 D82
          have le83 : h0.size ≤ b82 := Nat.le_trans Ea81.1 (Nat.le_of_eq g82.symm)
          have le84 : h80.size ≤ b82 := Nat.le_of_eq g82.symm
          have n0_b82 : n0 ≤ b82 := Nat.le_trans (Nat.le_trans Z0 Ea81.1) (Nat.le_of_eq g82.symm)
          have Ea85 := own_xt Ea81 E82
          have F_value_b82 : Fld Z h82 b82 "java/lang/String" "value" "[B" .null := D82 (Or.inr (ow_44 hw)) (ty := (.array .byte)) (by decide)
          have F_coder_b82 : Fld Z h82 b82 "java/lang/String" "coder" "B" (.int (0 : Int32)) := D82 (Or.inr (ow_45 hw)) (ty := .byte) (by decide)
          refine own_dup X82 hx hby at_100 (pc' := 101) rfl rfl ?_
          refine own_aload X82 hx hby at_101 (pc' := 103) rfl rfl rfl ?_
          have hp2 : ∀ c ∈ ([(p2 &&& (255 : Int32)), (p3 &&& (255 : Int32))] : List Int32), ¬ c < 0 ∧ ¬ (255 : Int32) < c := by intro c hc; simp only [List.mem_cons, List.not_mem_nil, or_false] at hc; rcases hc with rfl | rfl <;> exact own_mask _
          refine own_spec X82 hx hby hml hZ hown rfl (ow_34 hw) (ow_35 hw) (ow_36 hw) (by decide) (cc := 1) (ss := 2) (StrChars.Road.backV (W := 1) hZ (own_hws hw) (kI := 4) (ow_31 hw) (cs := [(p2 &&& (255 : Int32)), (p3 &&& (255 : Int32))]) (bs := ([(p2 &&& (255 : Int32)), (p3 &&& (255 : Int32))] : List Int32).map (fun c => c.toInt8.toInt32)) (n := 2) n0_b82 (Nat.le_trans Z0 Ea85.1) AX82 F_value_b82 F_coder_b82 (V80_b76.ext E82) (S_cs.ext Ea85) P5 rfl rfl (by decide) (by decide) hp2 rfl (by decide) (by decide)) rfl (argsL := [(.ref b76)]) (rest := [(.ref b82)]) opd_9 rfl rfl (Nat.le_refl _) at_103 (pc' := 106) rfl rfl e82 (by decide) (by decide) ?_
          rintro v86 T86 h86 L86 X86 e86 ⟨rfl, Nq86, Kq86, Aq86, Cq86, t86, kb86, _, _, _, Vq86, Bq86⟩
          have N86 := N80.app Nq86
          have Ea87 := own_xk Ea85 Kq86 (allS le83 all0)
          have Ea88 := own_xk E82 Kq86 (allS le84 all0)
          replace SN := SN.ext Ea87
          replace CH := CH.ext Ea87
          replace S_cs := S_cs.ext Ea87
          replace S_INSENSITIVE := S_INSENSITIVE.ext Ea87
          replace S_AS_IS := S_AS_IS.ext Ea87
          replace S_UPPER := S_UPPER.ext Ea87
          replace S_LOWER := S_LOWER.ext Ea87
          replace V80_b76 := V80_b76.ext Ea88
          have S_b82 : own_Str Z h86 b82 [(p2 &&& (255 : Int32)), (p3 &&& (255 : Int32))] := ⟨Aq86, Cq86, hp2, t86, kb86, Vq86, Bq86⟩
          have A_b82 := S_b82.exa
          refine own_astore X86 hx hby at_106 (pc' := 108) rfl rfl (Ls' := #[.val (.int p1), .val (.int p2), .val (.int p3), .val (.int p4), .val (.int p5), .val (.int z), .val (.int q), .val (.ref b82), .val (.ref b76), .unset, .unset, .unset, .unset]) rfl ?_
          refine own_iloadN X86 hx hby at_108 (pc' := 109) rfl rfl ?_
          refine own_iconst X86 hx hby at_109 (pc' := 110) rfl (z := 3) rfl ?_
          refine own_iand X86 hx hby at_110 (pc' := 111) rfl ?_
          refine own_istore X86 hx hby at_111 (pc' := 113) rfl (Ls' := #[.val (.int p1), .val (.int p2), .val (.int p3), .val (.int p4), .val (.int p5), .val (.int z), .val (.int q), .val (.ref b82), .val (.int (p4 &&& (3 : Int32))), .unset, .unset, .unset, .unset]) rfl ?_
          exact J34 _ _ _ _ b82 (X86.mono (by decide) (by decide)) e86 hZ hown SN CH Ea87 N86 S_cs S_INSENSITIVE S_AS_IS S_UPPER S_LOWER
  · intro J1
    by_cases hb1 : (p1 &&& (1 : Int32)) = (0 : Int32)
    · refine own_ifY X0 hx hby at_3 (by decide) (pc' := 10) (by decide) (teq hb1).1 ?_
      refine own_iconst X0 hx hby at_10 (pc' := 11) rfl (z := 0) rfl ?_
      exact J1 _ (Or.inl rfl)
    · refine own_ifN X0 hx hby at_3 (pc' := 6) rfl (feq hb1).1 ?_
      refine own_iconst X0 hx hby at_6 (pc' := 7) rfl (z := 1) rfl ?_
      refine own_goto X0 hx hby at_7 (by decide) (pc' := 11) (by decide) ?_
      exact J1 _ (Or.inr rfl)
set_option maxRecDepth 65536 in
set_option maxHeartbeats 40000000 in
theorem comes_1 {Post : Tables → Env → Array Value → State → Outcome → State → Prop} (hpost : ∀ tb e args s v u, (limb_1_1.after args s (.returned v) u = true ∧ limb_1_2.after args s (.returned v) u = true ∧ True) → ReturnedEndW s (.returned v) u (Jvm.fieldLocs frame_1_writes args s ++ Jvm.arrayLocs frame_1_arrays args s ++ Jvm.staticLocs frame_1_statics s) 24 1152 → Post tb e args s (.returned v) u) :
    ArmFor flags0 classFile x code maxLocals ret World_1 tables_1 room_1 Calls_1 rest_1 Pre_1 Post := by
  intro l hfl _ _ p e ha hc hk s m args below hf hA hF happ hP
  obtain ⟨hcalls, hrest, hpre⟩ := hP
  obtain ⟨-, -, -, hnamed, -, -, -, hat⟩ := (Spec.applies_iff hf).mp happ
  obtain ⟨hg, hn⟩ := and_e (Cond.before_iff.mp (show (Jvm.Cond.and given_1 narrow_1).before args s = true from hpre))
  obtain ⟨g1, g2⟩ := and_e hg
  obtain ⟨g3, g4⟩ := and_e g2
  obtain ⟨g5, g6⟩ := and_e g4
  obtain ⟨g7, g8⟩ := and_e g6
  obtain ⟨g9, g10⟩ := and_e g8
  obtain ⟨w0, w1, w2, w3, w4, rfl⟩ : ∃ w0 w1 w2 w3 w4 : Value, args = #[w0, w1, w2, w3, w4] := by
    have hs : args.size = 5 := by simpa [Cond.value, given_1] using g1
    obtain ⟨L⟩ := args
    match L, hs with
    | [w0, w1, w2, w3, w4], _ => exact ⟨w0, w1, w2, w3, w4, rfl⟩
  have hw := fun d (hd : d ∈ tables_1) => atoms_spec (ws := Jvm.Cond.code x code maxLocals ret :: tables_1) hat d (List.mem_cons_of_mem _ hd)
  have hfit : Fit s := fun {y c} hc i hi => by
    obtain ⟨ha, rfl⟩ := Array.getElem?_eq_some_iff.mp hc
    have q := List.all_eq_true.mp ((Array.all_eq_true_iff_forall_mem.mp hF) _ (Array.getElem_mem ha)) i (List.mem_range.mpr hi)
    simpa [Array.getElem?_eq_getElem hi] using q
  obtain ⟨hsets, hown0⟩ := atoms_of _ (rest_1_c_eq ▸ (show rest_1_c.before _ s = true from hrest))
  have hr0 := Cond.before_iff.mp hown0
  obtain ⟨i0, ei0⟩ := is_v g3
  obtain rfl : w0 = (.int i0) := Option.some.inj ei0
  obtain ⟨i1, ei1⟩ := is_v g5
  obtain rfl : w1 = (.int i1) := Option.some.inj ei1
  obtain ⟨i2, ei2⟩ := is_v g7
  obtain rfl : w2 = (.int i2) := Option.some.inj ei2
  obtain ⟨i3, ei3⟩ := is_v g9
  obtain rfl : w3 = (.int i3) := Option.some.inj ei3
  obtain ⟨i4, ei4⟩ := is_v g10
  obtain rfl : w4 = (.int i4) := Option.some.inj ei4
  obtain ⟨G1, eG1⟩ := is_v (Cond.before_iff.mp (hsets _ (List.mem_of_getElem? (i := 1) rfl)))
  have S_cs := Sta.start eG1 (Or.inl (hsets _ (List.mem_of_getElem? (i := 0) rfl)))
  have P5 : ¬ (G1 = (0 : Int32)) := own_not0 eG1 (hsets _ (List.mem_of_getElem? (i := 2) rfl))
  obtain ⟨k1, k234⟩ := and_e hn
  obtain ⟨k2, k34⟩ := and_e k234
  obtain ⟨k3, k4⟩ := and_e k34
  obtain ⟨g_AS_IS, e_AS_IS⟩ := exa_v k1
  have S_AS_IS := Sta.start e_AS_IS (Or.inr ⟨(ow_1 hw), (ow_2 hw)⟩)
  obtain ⟨g_LOWER, e_LOWER⟩ := exa_v k2
  have S_LOWER := Sta.start e_LOWER (Or.inr ⟨(ow_1 hw), (ow_51 hw)⟩)
  obtain ⟨g_INSENSITIVE, e_INSENSITIVE⟩ := exa_v k3
  have S_INSENSITIVE := Sta.start e_INSENSITIVE (Or.inr ⟨(ow_1 hw), (ow_69 hw)⟩)
  obtain ⟨g_UPPER, e_UPPER⟩ := exa_v k4
  have S_UPPER := Sta.start e_UPPER (Or.inr ⟨(ow_1 hw), (ow_82 hw)⟩)
  have hCH : CHv s own_EL s.vm s.heap := CHv.start (own_ew hw) (fun p hp => hcalls.1 p hp) (hsets _ (List.mem_of_getElem? (i := 2) rfl)) (ow_43 hw) (ow_31 hw)
  obtain ⟨n, o, h1, h2, h3, _, L, rfl, ⟨rfl, N⟩, -, hq⟩ := rm_law l s _ hw i0 i1 i2 i3 i4 G1 g_INSENSITIVE g_AS_IS g_UPPER g_LOWER s.heap s.heap.size (Nat.le_refl _) S_cs P5 S_INSENSITIVE S_AS_IS S_UPPER S_LOWER tables_1 p e ha hc hk s m _ below hf ((Spec.applies_iff_loose hf).mp happ).1 ⟨rfl, State.Warmed39.refl s, rfl, hCH⟩ trivial
  refine ⟨n, _, h1, h2, h3, hpost _ _ _ _ _ _ ⟨Cond.after_iff.mpr rfl, Cond.after_iff.mpr (eq_i res_at (Term.int_eval (1)) rfl), trivial⟩ ⟨hq.1, hq.2.1, hq.2.2.1, (hq.2.2.2.sift fun y hy => Or.inr (N y hy)).mono (by decide) (by decide)⟩⟩
theorem main_1_1 : Claimed_1_1 := comes_1 fun _ _ _ _ _ _ h hF => ⟨h.1, hF⟩
theorem main_1_2 : Claimed_1_2 := comes_1 fun _ _ _ _ _ _ h hF => ⟨h.2.1, hF⟩
end Jvm.Pilot.@@N@@
namespace Jvm.Pilot.@@N@@
open Jvm Jvm.ClassFile Sem Op Lib Jvm.Free Jvm.Stand Jvm.Pilot.@@N@@.Jvm.D
/-! MADE BY PROGRAM (witnessworld.py) out of the Statement's table words and the real class files: 25 classes; the members and pool entries that the words name. The judged class is class 1, her method 1. -/
namespace start1
open Jvm.ClassFile
def u (s : String) : CpInfo := .utf8 (stringToUtf16 s)
/-- a pool by its gaps: so many unusable entries, then the entry; so many at the end -/
def gap : Nat → List CpInfo → List CpInfo
  | 0, r => r
  | n + 1, r => .unusable :: gap n r
def poolList (es : List (Nat × CpInfo)) (last : Nat) : List CpInfo := es.foldr (fun e r => gap e.1 (e.2 :: r)) (gap last [])
def pool (es : List (Nat × CpInfo)) (last : Nat) : Array CpInfo := ⟨poolList es last⟩
def fileOf (pool : Array CpInfo) (this : Nat) (attrs : Array Attribute := #[]) (ms : Array MethodInfo := #[]) (fl : Nat := 33) (sup : Nat := 0) (ifs : Array Nat := #[]) (fds : Array FieldInfo := #[]) : ClassFile where
  minorVersion := 0
  majorVersion := 65
  constantPool := pool
  accessFlags := fl
  thisClass := this
  superClass := sup
  interfaces := ifs
  fields := fds
  methods := ms
  attributes := attrs
def plain (name : String) (sup : Option ClassId) : Class where
  name := name
  kind := .ordinary
  loader := none
  accessFlags := 33
  super := sup
  interfaces := #[]
  cf := none
  fields := #[]
  methods := #[]
  instanceTypes := #[]
  staticTypes := #[]
  resolved := #[]
  callSites := []
  init := .initialized
  statics := none
  mirror := none

def pool0 : Array CpInfo := pool [(5, u "<init>"), (0, u "()V"), (1, .class_ 10), (1, u "java/lang/Object")] 113

def k0c0 : Code := { maxStack := 0, maxLocals := 1, code := object_method_1_code, exceptionTable := #[], attributes := #[] }
def k0m0 : Method := { name := "<init>", desc := "()V", sig := { parameters := [], returnType := none }, accessFlags := 1, code := some k0c0 }
/-- java/lang/Object -/
def k0 : Class := { plain "java/lang/Object" none with
  accessFlags := 33
  interfaces := #[]
  cf := some (fileOf pool0 8 #[] #[{ accessFlags := 1, nameIndex := 5, descriptorIndex := 6, attributes := #[] }] 33 0 #[] #[])
  fields := #[]
  methods := #[k0m0]
  instanceTypes := #[]
  staticTypes := #[]
  resolved := Array.replicate 124 none
  statics := none }

def pool1 : Array CpInfo := pool [(2, .class_ 4), (1, u "java/lang/Object"), (0, u "<init>"), (0, u "()V"), (0, .class_ 8), (0, u "java/lang/String"), (0, .methodref 7 10), (0, .nameAndType 5 11), (0, u "([C)V"), (0, .methodref 7 13), (0, .nameAndType 14 15), (0, u "valueOf"), (0, u "(C)Ljava/lang/String;"), (0, .fieldref 17 18), (0, .class_ 19), (0, .nameAndType 20 21), (0, u "com/example/kindred/kindred/matching/Preparation$LetterCase"), (0, u "INSENSITIVE"), (0, u "Lcom/example/kindred/kindred/matching/Preparation$LetterCase;"), (0, .fieldref 17 23), (0, .nameAndType 24 21), (0, u "AS_IS"), (0, .fieldref 17 26), (0, .nameAndType 27 21), (0, u "UPPER"), (0, .fieldref 17 29), (0, .nameAndType 30 21), (0, u "LOWER"), (0, .class_ 32), (0, u "com/example/kindred/kindred/matching/Preparation$Take"), (0, .integer 2147483647), (0, .methodref 35 36), (0, .class_ 37), (0, .nameAndType 38 39), (0, u "java/lang/Math"), (0, u "max"), (0, u "(II)I"), (0, .methodref 31 41), (0, .nameAndType 5 42), (0, u "(ZI)V"), (0, .class_ 44), (0, u "com/example/kindred/kindred/matching/Preparation"), (0, .methodref 43 46), (0, .nameAndType 5 47), (0, u "(ZLjava/lang/String;Lcom/example/kindred/kindred/matching/Preparation$LetterCase;Lcom/example/kindred/kindred/matching/Preparation$Take;)V"), (0, .methodref 43 49), (0, .nameAndType 50 51), (0, u "keepsEveryCharacter"), (0, u "()Z"), (0, .class_ 53), (0, u "com/example/kindred/kindred/matching/PreparationKeepsEveryCharacterPinLaw"), (2, u "law"), (0, u "(IIIII)Z")] 6

def k1m0 : Method := { name := "<init>", desc := "()V", sig := { parameters := [], returnType := none }, accessFlags := 1, code := none }
def k1c1 : Code := { maxStack := 6, maxLocals := 13, code := code, exceptionTable := #[], attributes := #[] }
def k1m1 : Method := { name := "law", desc := "(IIIII)Z", sig := { parameters := [.int, .int, .int, .int, .int], returnType := some .boolean }, accessFlags := 9, code := some k1c1 }
/-- com/example/kindred/kindred/matching/PreparationKeepsEveryCharacterPinLaw -/
def k1 : Class := { plain "com/example/kindred/kindred/matching/PreparationKeepsEveryCharacterPinLaw" (some 0) with
  accessFlags := 49
  interfaces := #[]
  cf := some (fileOf pool1 52 #[] #[{ accessFlags := 1, nameIndex := 5, descriptorIndex := 6, attributes := #[] }, { accessFlags := 9, nameIndex := 56, descriptorIndex := 57, attributes := #[] }] 49 2 #[] #[])
  fields := #[]
  methods := #[k1m0, k1m1]
  instanceTypes := #[]
  staticTypes := #[]
  resolved := Array.replicate 64 none
  statics := none }

def pool2 : Array CpInfo := pool [(1, .class_ 2), (0, u "java/lang/constant/Constable"), (0, .class_ 4), (0, u "java/lang/Object")] 6

/-- java/lang/constant/Constable -/
def k2 : Class := { plain "java/lang/constant/Constable" (some 0) with
  accessFlags := 1537
  interfaces := #[]
  cf := some (fileOf pool2 1 #[] #[] 1537 3 #[] #[])
  fields := #[]
  methods := #[]
  instanceTypes := #[]
  staticTypes := #[]
  resolved := Array.replicate 11 none
  statics := none }

def pool3 : Array CpInfo := pool [(1, .class_ 2), (0, u "java/lang/Comparable"), (0, .class_ 4), (0, u "java/lang/Object")] 7

/-- java/lang/Comparable -/
def k3 : Class := { plain "java/lang/Comparable" (some 0) with
  accessFlags := 1537
  interfaces := #[]
  cf := some (fileOf pool3 1 #[] #[] 1537 3 #[] #[])
  fields := #[]
  methods := #[]
  instanceTypes := #[]
  staticTypes := #[]
  resolved := Array.replicate 12 none
  statics := none }

def pool4 : Array CpInfo := pool [(1, .class_ 2), (0, u "java/io/Serializable"), (0, .class_ 4), (0, u "java/lang/Object")] 2

/-- java/io/Serializable -/
def k4 : Class := { plain "java/io/Serializable" (some 0) with
  accessFlags := 1537
  interfaces := #[]
  cf := some (fileOf pool4 1 #[] #[] 1537 3 #[] #[])
  fields := #[]
  methods := #[]
  instanceTypes := #[]
  staticTypes := #[]
  resolved := Array.replicate 7 none
  statics := none }

def pool5 : Array CpInfo := pool [(2, .class_ 4), (1, u "java/lang/Enum"), (0, u "name"), (0, u "Ljava/lang/String;"), (2, u "ordinal"), (0, u "I"), (1, .class_ 14), (1, u "java/lang/Object"), (4, u "hash"), (86, .class_ 108), (1, u "java/lang/Enum$EnumDesc"), (2, .class_ 112), (0, u "java/lang/constant/Constable"), (0, .class_ 114), (0, u "java/lang/Comparable"), (0, .class_ 116), (0, u "java/io/Serializable")] 87

/-- java/lang/Enum -/
def k5 : Class := { plain "java/lang/Enum" (some 0) with
  accessFlags := 1057
  interfaces := #[2, 3, 4]
  cf := some (fileOf pool5 2 #[.nestMembers #[106]] #[] 1057 12 #[111, 113, 115] #[{ accessFlags := 18, nameIndex := 5, descriptorIndex := 6, attributes := #[] }, { accessFlags := 18, nameIndex := 9, descriptorIndex := 10, attributes := #[] }, { accessFlags := 2, nameIndex := 19, descriptorIndex := 10, attributes := #[] }])
  fields := #[{ name := "name", type := (.object "java/lang/String"), accessFlags := 18, slot := 0, constantValue := 0 }, { name := "ordinal", type := .int, accessFlags := 18, slot := 1, constantValue := 0 }, { name := "hash", type := .int, accessFlags := 2, slot := 2, constantValue := 0 }]
  methods := #[]
  instanceTypes := #[(.object "java/lang/String"), .int, .int]
  staticTypes := #[]
  resolved := Array.replicate 204 none
  statics := none }

def pool6 : Array CpInfo := pool [(1, .class_ 2), (0, u "com/example/kindred/kindred/matching/Preparation$LetterCase"), (2, u "INSENSITIVE"), (0, u "Lcom/example/kindred/kindred/matching/Preparation$LetterCase;"), (2, u "AS_IS"), (2, u "UPPER"), (2, u "LOWER"), (2, u "$VALUES"), (0, u "[Lcom/example/kindred/kindred/matching/Preparation$LetterCase;"), (6, .class_ 28), (1, u "java/lang/Enum"), (27, .class_ 57), (0, u "com/example/kindred/kindred/matching/Preparation")] 2

/-- com/example/kindred/kindred/matching/Preparation$LetterCase -/
def k6 : Class := { plain "com/example/kindred/kindred/matching/Preparation$LetterCase" (some 5) with
  accessFlags := 16433
  interfaces := #[]
  cf := some (fileOf pool6 1 #[.nestHost 56] #[] 16433 26 #[] #[{ accessFlags := 16409, nameIndex := 5, descriptorIndex := 6, attributes := #[] }, { accessFlags := 16409, nameIndex := 9, descriptorIndex := 6, attributes := #[] }, { accessFlags := 16409, nameIndex := 12, descriptorIndex := 6, attributes := #[] }, { accessFlags := 16409, nameIndex := 15, descriptorIndex := 6, attributes := #[] }, { accessFlags := 4122, nameIndex := 18, descriptorIndex := 19, attributes := #[] }])
  fields := #[{ name := "INSENSITIVE", type := (.object "com/example/kindred/kindred/matching/Preparation$LetterCase"), accessFlags := 16409, slot := 0, constantValue := 0 }, { name := "AS_IS", type := (.object "com/example/kindred/kindred/matching/Preparation$LetterCase"), accessFlags := 16409, slot := 1, constantValue := 0 }, { name := "UPPER", type := (.object "com/example/kindred/kindred/matching/Preparation$LetterCase"), accessFlags := 16409, slot := 2, constantValue := 0 }, { name := "LOWER", type := (.object "com/example/kindred/kindred/matching/Preparation$LetterCase"), accessFlags := 16409, slot := 3, constantValue := 0 }, { name := "$VALUES", type := (.array (.object "com/example/kindred/kindred/matching/Preparation$LetterCase")), accessFlags := 4122, slot := 4, constantValue := 0 }]
  methods := #[]
  instanceTypes := #[(.object "java/lang/String"), .int, .int]
  staticTypes := #[(.object "com/example/kindred/kindred/matching/Preparation$LetterCase"), (.object "com/example/kindred/kindred/matching/Preparation$LetterCase"), (.object "com/example/kindred/kindred/matching/Preparation$LetterCase"), (.object "com/example/kindred/kindred/matching/Preparation$LetterCase"), (.array (.object "com/example/kindred/kindred/matching/Preparation$LetterCase"))]
  resolved := Array.replicate 60 none
  statics := some 0 }

def pool7 : Array CpInfo := pool [(1, .methodref 2 3), (0, .class_ 4), (0, .nameAndType 5 6), (0, u "java/lang/Object"), (0, u "<init>"), (0, u "()V"), (0, .class_ 8), (0, u "java/lang/Record")] 13

def k7c0 : Code := { maxStack := 1, maxLocals := 1, code := jdk_30_method_1_code, exceptionTable := #[], attributes := #[] }
def k7m0 : Method := { name := "<init>", desc := "()V", sig := { parameters := [], returnType := none }, accessFlags := 4, code := some k7c0 }
/-- java/lang/Record -/
def k7 : Class := { plain "java/lang/Record" (some 0) with
  accessFlags := 1057
  interfaces := #[]
  cf := some (fileOf pool7 7 #[] #[{ accessFlags := 4, nameIndex := 5, descriptorIndex := 6, attributes := #[] }] 1057 2 #[] #[])
  fields := #[]
  methods := #[k7m0]
  instanceTypes := #[]
  staticTypes := #[]
  resolved := Array.replicate 22 none
  statics := none }

def pool8 : Array CpInfo := pool [(1, .methodref 2 3), (0, .class_ 4), (0, .nameAndType 5 6), (0, u "java/lang/Record"), (0, u "<init>"), (0, u "()V"), (0, .fieldref 8 9), (0, .class_ 10), (0, .nameAndType 11 12), (0, u "com/example/kindred/kindred/matching/Preparation"), (0, u "removeSpaces"), (0, u "Z"), (0, .fieldref 8 14), (0, .nameAndType 15 16), (0, u "keep"), (0, u "Ljava/lang/String;"), (0, .fieldref 8 18), (0, .nameAndType 19 20), (0, u "letterCase"), (0, u "Lcom/example/kindred/kindred/matching/Preparation$LetterCase;"), (0, .fieldref 8 22), (0, .nameAndType 23 24), (0, u "take"), (0, u "Lcom/example/kindred/kindred/matching/Preparation$Take;"), (10, .class_ 37), (1, u "com/example/kindred/kindred/matching/Preparation$LetterCase"), (23, .class_ 63), (1, u "com/example/kindred/kindred/matching/Preparation$Take"), (4, u "()Z"), (8, u "keepsEveryCharacter"), (60, u "(ZLjava/lang/String;Lcom/example/kindred/kindred/matching/Preparation$LetterCase;Lcom/example/kindred/kindred/matching/Preparation$Take;)V")] 58

def k8c0 : Code := { maxStack := 2, maxLocals := 5, code := prog_19_method_1_code, exceptionTable := #[], attributes := #[] }
def k8m0 : Method := { name := "<init>", desc := "(ZLjava/lang/String;Lcom/example/kindred/kindred/matching/Preparation$LetterCase;Lcom/example/kindred/kindred/matching/Preparation$Take;)V", sig := { parameters := [.boolean, (.object "java/lang/String"), (.object "com/example/kindred/kindred/matching/Preparation$LetterCase"), (.object "com/example/kindred/kindred/matching/Preparation$Take")], returnType := none }, accessFlags := 1, code := some k8c0 }
def k8c1 : Code := { maxStack := 1, maxLocals := 1, code := prog_19_method_4_code, exceptionTable := #[], attributes := #[] }
def k8m1 : Method := { name := "keepsEveryCharacter", desc := "()Z", sig := { parameters := [], returnType := some .boolean }, accessFlags := 1, code := some k8c1 }
/-- com/example/kindred/kindred/matching/Preparation -/
def k8 : Class := { plain "com/example/kindred/kindred/matching/Preparation" (some 7) with
  accessFlags := 49
  interfaces := #[]
  cf := some (fileOf pool8 8 #[.nestMembers #[61, 35]] #[{ accessFlags := 1, nameIndex := 5, descriptorIndex := 138, attributes := #[] }, { accessFlags := 1, nameIndex := 77, descriptorIndex := 68, attributes := #[] }] 49 2 #[] #[{ accessFlags := 18, nameIndex := 11, descriptorIndex := 12, attributes := #[] }, { accessFlags := 18, nameIndex := 15, descriptorIndex := 16, attributes := #[] }, { accessFlags := 18, nameIndex := 19, descriptorIndex := 20, attributes := #[] }, { accessFlags := 18, nameIndex := 23, descriptorIndex := 24, attributes := #[] }])
  fields := #[{ name := "removeSpaces", type := .boolean, accessFlags := 18, slot := 0, constantValue := 0 }, { name := "keep", type := (.object "java/lang/String"), accessFlags := 18, slot := 1, constantValue := 0 }, { name := "letterCase", type := (.object "com/example/kindred/kindred/matching/Preparation$LetterCase"), accessFlags := 18, slot := 2, constantValue := 0 }, { name := "take", type := (.object "com/example/kindred/kindred/matching/Preparation$Take"), accessFlags := 18, slot := 3, constantValue := 0 }]
  methods := #[k8m0, k8m1]
  instanceTypes := #[.boolean, (.object "java/lang/String"), (.object "com/example/kindred/kindred/matching/Preparation$LetterCase"), (.object "com/example/kindred/kindred/matching/Preparation$Take")]
  staticTypes := #[]
  resolved := Array.replicate 197 none
  statics := none }

def pool9 : Array CpInfo := pool [(2, .class_ 4), (1, u "java/lang/CharSequence"), (42, .class_ 48), (0, u "java/lang/CharSequence$1CodePointIterator"), (10, .class_ 60), (0, u "java/lang/CharSequence$1CharIterator"), (5, .class_ 67), (0, u "java/lang/Object")] 63

/-- java/lang/CharSequence -/
def k9 : Class := { plain "java/lang/CharSequence" (some 0) with
  accessFlags := 1537
  interfaces := #[]
  cf := some (fileOf pool9 2 #[.nestMembers #[47, 59]] #[] 1537 66 #[] #[])
  fields := #[]
  methods := #[]
  instanceTypes := #[]
  staticTypes := #[]
  resolved := Array.replicate 131 none
  statics := none }

def pool10 : Array CpInfo := pool [(1, .class_ 2), (0, u "java/lang/constant/ConstantDesc"), (0, .class_ 4), (0, u "java/lang/Object")] 32

/-- java/lang/constant/ConstantDesc -/
def k10 : Class := { plain "java/lang/constant/ConstantDesc" (some 0) with
  accessFlags := 1537
  interfaces := #[]
  cf := some (fileOf pool10 1 #[] #[] 1537 3 #[] #[])
  fields := #[]
  methods := #[]
  instanceTypes := #[]
  staticTypes := #[]
  resolved := Array.replicate 37 none
  statics := none }

def pool11 : Array CpInfo := pool [(1, .methodref 2 3), (0, .class_ 4), (0, .nameAndType 5 6), (0, u "java/lang/Object"), (0, u "<init>"), (0, u "()V"), (0, .string 8), (0, u ""), (0, .fieldref 10 11), (0, .class_ 12), (0, .nameAndType 13 14), (0, u "java/lang/String"), (0, u "value"), (0, u "[B"), (0, .fieldref 10 16), (0, .nameAndType 17 18), (0, u "coder"), (0, u "B"), (2, u "hash"), (0, u "I"), (2, u "hashIsZero"), (0, u "Z"), (0, .methodref 10 28), (0, .nameAndType 5 29), (0, u "([CIILjava/lang/Void;)V"), (8, .fieldref 10 39), (0, .nameAndType 40 26), (0, u "COMPACT_STRINGS"), (1, .class_ 44), (1, u "java/lang/StringUTF16"), (0, u "compress"), (1, .methodref 42 48), (0, .nameAndType 49 50), (0, u "coderFromArrayLen"), (0, u "([BI)B"), (2, u "toBytes"), (53, .class_ 109), (1, u "java/lang/StringLatin1"), (67, .methodref 42 178), (0, .nameAndType 45 179), (0, u "([CII)[B"), (29, .methodref 10 210), (0, .nameAndType 5 211), (0, u "([BB)V"), (157, u "(C)Z"), (205, .class_ 576), (0, u "java/lang/CharSequence"), (22, u "CASE_INSENSITIVE_ORDER"), (0, u "Ljava/util/Comparator;"), (181, u "valueOf"), (0, u "(C)Ljava/lang/String;"), (226, u "([C)V"), (4, .methodref 107 1016), (0, .nameAndType 1017 369), (0, u "canEncode"), (0, .methodref 107 1019), (0, .nameAndType 53 1020), (0, u "(C)[B"), (80, u "serialPersistentFields"), (0, u "[Ljava/io/ObjectStreamField;"), (0, .class_ 1104), (0, u "java/lang/String$CaseInsensitiveComparator"), (1, .class_ 1107), (0, u "java/io/Serializable"), (0, .class_ 1109), (0, u "java/lang/Comparable"), (0, .class_ 1111), (0, u "java/lang/constant/Constable"), (0, .class_ 1113), (0, u "java/lang/constant/ConstantDesc"), (2, u "serialVersionUID"), (0, u "J"), (3, u "REPL"), (0, u "C"), (2, u "LATIN1"), (1, u "UTF16")] 323

def k11m0 : Method := { name := "<init>", desc := "()V", sig := { parameters := [], returnType := none }, accessFlags := 1, code := none }
def k11c1 : Code := { maxStack := 5, maxLocals := 2, code := jdk_42_method_3_code, exceptionTable := #[], attributes := #[] }
def k11m1 : Method := { name := "<init>", desc := "([C)V", sig := { parameters := [(.array .char)], returnType := none }, accessFlags := 1, code := some k11c1 }
def k11c2 : Code := { maxStack := 4, maxLocals := 1, code := jdk_42_method_139_code, exceptionTable := #[], attributes := #[] }
def k11m2 : Method := { name := "valueOf", desc := "(C)Ljava/lang/String;", sig := { parameters := [.char], returnType := some (.object "java/lang/String") }, accessFlags := 9, code := some k11c2 }
def k11c3 : Code := { maxStack := 4, maxLocals := 6, code := jdk_42_method_149_code, exceptionTable := #[], attributes := #[] }
def k11m3 : Method := { name := "<init>", desc := "([CIILjava/lang/Void;)V", sig := { parameters := [(.array .char), .int, .int, (.object "java/lang/Void")], returnType := none }, accessFlags := 2, code := some k11c3 }
def k11c4 : Code := { maxStack := 2, maxLocals := 3, code := jdk_42_method_151_code, exceptionTable := #[], attributes := #[] }
def k11m4 : Method := { name := "<init>", desc := "([BB)V", sig := { parameters := [(.array .byte), .byte], returnType := none }, accessFlags := 0, code := some k11c4 }
/-- java/lang/String -/
def k11 : Class := { plain "java/lang/String" (some 0) with
  accessFlags := 49
  interfaces := #[4, 3, 9, 2, 10]
  cf := some (fileOf pool11 10 #[.nestMembers #[1103]] #[{ accessFlags := 1, nameIndex := 5, descriptorIndex := 6, attributes := #[] }, { accessFlags := 1, nameIndex := 5, descriptorIndex := 1010, attributes := #[] }, { accessFlags := 9, nameIndex := 782, descriptorIndex := 783, attributes := #[] }, { accessFlags := 2, nameIndex := 5, descriptorIndex := 29, attributes := #[] }, { accessFlags := 0, nameIndex := 5, descriptorIndex := 211, attributes := #[] }] 49 2 #[1106, 1108, 575, 1110, 1112] #[{ accessFlags := 18, nameIndex := 13, descriptorIndex := 14, attributes := #[] }, { accessFlags := 18, nameIndex := 17, descriptorIndex := 18, attributes := #[] }, { accessFlags := 2, nameIndex := 21, descriptorIndex := 22, attributes := #[] }, { accessFlags := 2, nameIndex := 25, descriptorIndex := 26, attributes := #[] }, { accessFlags := 26, nameIndex := 1116, descriptorIndex := 1117, attributes := #[] }, { accessFlags := 24, nameIndex := 40, descriptorIndex := 26, attributes := #[] }, { accessFlags := 26, nameIndex := 1101, descriptorIndex := 1102, attributes := #[] }, { accessFlags := 26, nameIndex := 1121, descriptorIndex := 1122, attributes := #[] }, { accessFlags := 25, nameIndex := 599, descriptorIndex := 600, attributes := #[] }, { accessFlags := 24, nameIndex := 1125, descriptorIndex := 18, attributes := #[] }, { accessFlags := 24, nameIndex := 1127, descriptorIndex := 18, attributes := #[] }])
  fields := #[{ name := "value", type := (.array .byte), accessFlags := 18, slot := 0, constantValue := 0 }, { name := "coder", type := .byte, accessFlags := 18, slot := 1, constantValue := 0 }, { name := "hash", type := .int, accessFlags := 2, slot := 2, constantValue := 0 }, { name := "hashIsZero", type := .boolean, accessFlags := 2, slot := 3, constantValue := 0 }, { name := "serialVersionUID", type := .long, accessFlags := 26, slot := 0, constantValue := 0 }, { name := "COMPACT_STRINGS", type := .boolean, accessFlags := 24, slot := 1, constantValue := 0 }, { name := "serialPersistentFields", type := (.array (.object "java/io/ObjectStreamField")), accessFlags := 26, slot := 2, constantValue := 0 }, { name := "REPL", type := .char, accessFlags := 26, slot := 3, constantValue := 0 }, { name := "CASE_INSENSITIVE_ORDER", type := (.object "java/util/Comparator"), accessFlags := 25, slot := 4, constantValue := 0 }, { name := "LATIN1", type := .byte, accessFlags := 24, slot := 5, constantValue := 0 }, { name := "UTF16", type := .byte, accessFlags := 24, slot := 6, constantValue := 0 }]
  methods := #[k11m0, k11m1, k11m2, k11m3, k11m4]
  instanceTypes := #[(.array .byte), .byte, .int, .boolean]
  staticTypes := #[.long, .boolean, (.array (.object "java/io/ObjectStreamField")), .char, (.object "java/util/Comparator"), .byte, .byte]
  resolved := Array.replicate 1451 none
  statics := some 1 }

def pool12 : Array CpInfo := pool [(1, .methodref 2 3), (0, .class_ 4), (0, .nameAndType 5 6), (0, u "java/lang/Record"), (0, u "<init>"), (0, u "()V"), (9, .fieldref 17 18), (0, .class_ 19), (0, .nameAndType 20 21), (0, u "com/example/kindred/kindred/matching/Preparation$Take"), (0, u "fromEnd"), (0, u "Z"), (0, .fieldref 17 23), (0, .nameAndType 24 25), (0, u "count"), (0, u "I"), (31, u "(ZI)V"), (12, .class_ 71), (0, u "com/example/kindred/kindred/matching/Preparation")] 28

def k12c0 : Code := { maxStack := 3, maxLocals := 3, code := prog_21_method_1_code, exceptionTable := #[], attributes := #[] }
def k12m0 : Method := { name := "<init>", desc := "(ZI)V", sig := { parameters := [.boolean, .int], returnType := none }, accessFlags := 1, code := some k12c0 }
/-- com/example/kindred/kindred/matching/Preparation$Take -/
def k12 : Class := { plain "com/example/kindred/kindred/matching/Preparation$Take" (some 7) with
  accessFlags := 49
  interfaces := #[]
  cf := some (fileOf pool12 17 #[.nestHost 70] #[{ accessFlags := 1, nameIndex := 5, descriptorIndex := 57, attributes := #[] }] 49 2 #[] #[{ accessFlags := 18, nameIndex := 20, descriptorIndex := 21, attributes := #[] }, { accessFlags := 18, nameIndex := 24, descriptorIndex := 25, attributes := #[] }])
  fields := #[{ name := "fromEnd", type := .boolean, accessFlags := 18, slot := 0, constantValue := 0 }, { name := "count", type := .int, accessFlags := 18, slot := 1, constantValue := 0 }]
  methods := #[k12m0]
  instanceTypes := #[.boolean, .int]
  staticTypes := #[]
  resolved := Array.replicate 100 none
  statics := none }

def pool13 : Array CpInfo := pool [(1, .class_ 2), (0, u "java/lang/Math"), (1, .class_ 6), (1, u "java/lang/Object"), (0, u "<init>"), (0, u "()V"), (89, .class_ 100), (1, u "java/lang/Math$RandomNumberGeneratorHolder"), (71, u "negativeZeroFloatBits"), (0, u "J"), (2, u "negativeZeroDoubleBits"), (21, u "max"), (46, u "$assertionsDisabled"), (0, u "Z"), (88, u "(II)I"), (2, u "twoToTheDoubleScaleDown"), (0, u "D"), (4, u "twoToTheDoubleScaleUp"), (9, u "E"), (3, u "PI"), (2, u "TAU"), (2, u "DEGREES_TO_RADIANS"), (0, u "RADIANS_TO_DEGREES")] 94

def k13m0 : Method := { name := "<init>", desc := "()V", sig := { parameters := [], returnType := none }, accessFlags := 2, code := none }
def k13c1 : Code := { maxStack := 2, maxLocals := 2, code := jdk_29_method_65_code, exceptionTable := #[], attributes := #[] }
def k13m1 : Method := { name := "max", desc := "(II)I", sig := { parameters := [.int, .int], returnType := some .int }, accessFlags := 9, code := some k13c1 }
/-- java/lang/Math -/
def k13 : Class := { plain "java/lang/Math" (some 0) with
  accessFlags := 49
  interfaces := #[]
  cf := some (fileOf pool13 1 #[.nestMembers #[98]] #[{ accessFlags := 2, nameIndex := 7, descriptorIndex := 8, attributes := #[] }, { accessFlags := 9, nameIndex := 198, descriptorIndex := 335, attributes := #[] }] 49 4 #[] #[{ accessFlags := 25, nameIndex := 354, descriptorIndex := 339, attributes := #[] }, { accessFlags := 25, nameIndex := 358, descriptorIndex := 339, attributes := #[] }, { accessFlags := 25, nameIndex := 361, descriptorIndex := 339, attributes := #[] }, { accessFlags := 26, nameIndex := 364, descriptorIndex := 339, attributes := #[] }, { accessFlags := 26, nameIndex := 365, descriptorIndex := 339, attributes := #[] }, { accessFlags := 26, nameIndex := 172, descriptorIndex := 173, attributes := #[] }, { accessFlags := 26, nameIndex := 176, descriptorIndex := 173, attributes := #[] }, { accessFlags := 8, nameIndex := 344, descriptorIndex := 339, attributes := #[] }, { accessFlags := 8, nameIndex := 338, descriptorIndex := 339, attributes := #[] }, { accessFlags := 4120, nameIndex := 245, descriptorIndex := 246, attributes := #[] }])
  fields := #[{ name := "E", type := .double, accessFlags := 25, slot := 0, constantValue := 0 }, { name := "PI", type := .double, accessFlags := 25, slot := 1, constantValue := 0 }, { name := "TAU", type := .double, accessFlags := 25, slot := 2, constantValue := 0 }, { name := "DEGREES_TO_RADIANS", type := .double, accessFlags := 26, slot := 3, constantValue := 0 }, { name := "RADIANS_TO_DEGREES", type := .double, accessFlags := 26, slot := 4, constantValue := 0 }, { name := "negativeZeroFloatBits", type := .long, accessFlags := 26, slot := 5, constantValue := 0 }, { name := "negativeZeroDoubleBits", type := .long, accessFlags := 26, slot := 6, constantValue := 0 }, { name := "twoToTheDoubleScaleUp", type := .double, accessFlags := 8, slot := 7, constantValue := 0 }, { name := "twoToTheDoubleScaleDown", type := .double, accessFlags := 8, slot := 8, constantValue := 0 }, { name := "$assertionsDisabled", type := .boolean, accessFlags := 4120, slot := 9, constantValue := 0 }]
  methods := #[k13m0, k13m1]
  instanceTypes := #[]
  staticTypes := #[.double, .double, .double, .double, .double, .long, .long, .double, .double, .boolean]
  resolved := Array.replicate 460 none
  statics := none }

def pool14 : Array CpInfo := pool [(6, .class_ 8), (1, u "java/lang/Object"), (0, u "<init>"), (0, u "()V"), (1, .class_ 14), (1, u "java/lang/StringUTF16"), (31, u "$assertionsDisabled"), (0, u "Z"), (13, u "HI_BYTE_SHIFT"), (0, u "I"), (2, u "LO_BYTE_SHIFT"), (49, .methodref 12 116), (0, .nameAndType 117 118), (0, u "compress"), (0, u "([CI[BII)I"), (3, u "([CII)[B"), (138, u "coderFromArrayLen"), (0, u "([BI)B"), (106, .class_ 371), (1, u "java/lang/StringUTF16$LinesSpliterator"), (58, u "MAX_LENGTH"), (196, .class_ 628), (0, u "java/lang/StringUTF16$CodePointsSpliterator"), (0, .class_ 630), (0, u "java/lang/StringUTF16$CharsSpliterator")] 4

def k14m0 : Method := { name := "<init>", desc := "()V", sig := { parameters := [], returnType := none }, accessFlags := 0, code := none }
def k14c1 : Code := { maxStack := 2, maxLocals := 2, code := jdk_52_method_15_code, exceptionTable := #[], attributes := #[] }
def k14m1 : Method := { name := "coderFromArrayLen", desc := "([BI)B", sig := { parameters := [(.array .byte), .int], returnType := some .byte }, accessFlags := 8, code := some k14c1 }
def k14c2 : Code := { maxStack := 5, maxLocals := 6, code := jdk_52_method_16_code, exceptionTable := #[], attributes := #[] }
def k14m2 : Method := { name := "compress", desc := "([CII)[B", sig := { parameters := [(.array .char), .int, .int], returnType := some (.array .byte) }, accessFlags := 9, code := some k14c2 }
def k14c3 : Code := { maxStack := 3, maxLocals := 7, code := jdk_52_method_21_code, exceptionTable := #[], attributes := #[] }
def k14m3 : Method := { name := "compress", desc := "([CI[BII)I", sig := { parameters := [(.array .char), .int, (.array .byte), .int, .int], returnType := some .int }, accessFlags := 9, code := some k14c3 }
/-- java/lang/StringUTF16 -/
def k14 : Class := { plain "java/lang/StringUTF16" (some 0) with
  accessFlags := 48
  interfaces := #[]
  cf := some (fileOf pool14 12 #[.nestMembers #[627, 629, 369]] #[{ accessFlags := 0, nameIndex := 9, descriptorIndex := 10, attributes := #[] }, { accessFlags := 8, nameIndex := 261, descriptorIndex := 262, attributes := #[] }, { accessFlags := 9, nameIndex := 117, descriptorIndex := 122, attributes := #[] }, { accessFlags := 9, nameIndex := 117, descriptorIndex := 118, attributes := #[] }] 48 6 #[] #[{ accessFlags := 26, nameIndex := 61, descriptorIndex := 62, attributes := #[] }, { accessFlags := 26, nameIndex := 65, descriptorIndex := 62, attributes := #[] }, { accessFlags := 24, nameIndex := 430, descriptorIndex := 62, attributes := #[] }, { accessFlags := 4120, nameIndex := 46, descriptorIndex := 47, attributes := #[] }])
  fields := #[{ name := "HI_BYTE_SHIFT", type := .int, accessFlags := 26, slot := 0, constantValue := 0 }, { name := "LO_BYTE_SHIFT", type := .int, accessFlags := 26, slot := 1, constantValue := 0 }, { name := "MAX_LENGTH", type := .int, accessFlags := 24, slot := 2, constantValue := 0 }, { name := "$assertionsDisabled", type := .boolean, accessFlags := 4120, slot := 3, constantValue := 0 }]
  methods := #[k14m0, k14m1, k14m2, k14m3]
  instanceTypes := #[]
  staticTypes := #[.int, .int, .int, .boolean]
  resolved := Array.replicate 635 none
  statics := none }

def pool15 : Array CpInfo := pool [(4, .class_ 6), (1, u "java/lang/Object"), (0, u "<init>"), (0, u "()V"), (5, .class_ 16), (1, u "java/lang/StringLatin1"), (73, u "canEncode"), (14, u "(C)Z"), (15, u "$assertionsDisabled"), (0, u "Z"), (98, .class_ 223), (1, u "java/lang/StringLatin1$LinesSpliterator"), (156, u "toBytes"), (1, u "(C)[B"), (7, .class_ 391), (0, u "java/lang/StringLatin1$CharsSpliterator")] 3

def k15m0 : Method := { name := "<init>", desc := "()V", sig := { parameters := [], returnType := none }, accessFlags := 0, code := none }
def k15c1 : Code := { maxStack := 2, maxLocals := 1, code := jdk_43_method_3_code, exceptionTable := #[], attributes := #[] }
def k15m1 : Method := { name := "canEncode", desc := "(C)Z", sig := { parameters := [.char], returnType := some .boolean }, accessFlags := 9, code := some k15c1 }
def k15c2 : Code := { maxStack := 4, maxLocals := 1, code := jdk_43_method_46_code, exceptionTable := #[], attributes := #[] }
def k15m2 : Method := { name := "toBytes", desc := "(C)[B", sig := { parameters := [.char], returnType := some (.array .byte) }, accessFlags := 9, code := some k15c2 }
/-- java/lang/StringLatin1 -/
def k15 : Class := { plain "java/lang/StringLatin1" (some 0) with
  accessFlags := 48
  interfaces := #[]
  cf := some (fileOf pool15 14 #[.nestMembers #[390, 221]] #[{ accessFlags := 0, nameIndex := 7, descriptorIndex := 8, attributes := #[] }, { accessFlags := 9, nameIndex := 90, descriptorIndex := 105, attributes := #[] }, { accessFlags := 9, nameIndex := 380, descriptorIndex := 382, attributes := #[] }] 48 4 #[] #[{ accessFlags := 4120, nameIndex := 121, descriptorIndex := 122, attributes := #[] }])
  fields := #[{ name := "$assertionsDisabled", type := .boolean, accessFlags := 4120, slot := 0, constantValue := 0 }]
  methods := #[k15m0, k15m1, k15m2]
  instanceTypes := #[]
  staticTypes := #[.boolean]
  resolved := Array.replicate 395 none
  statics := none }

def pool16 : Array CpInfo := pool [(2, .class_ 4), (1, u "java/lang/Object"), (0, u "<init>"), (0, u "()V"), (17, .class_ 26), (1, u "jdk/internal/util/Preconditions"), (28, .class_ 56), (0, u "jdk/internal/util/Preconditions$4"), (57, .class_ 115), (0, u "jdk/internal/util/Preconditions$1"), (7, u "SIOOBE_FORMATTER"), (0, u "Ljava/util/function/BiFunction;"), (0, .class_ 126), (0, u "jdk/internal/util/Preconditions$2"), (3, u "AIOOBE_FORMATTER"), (0, .class_ 132), (0, u "jdk/internal/util/Preconditions$3"), (3, u "IOOBE_FORMATTER")] 57

def k16m0 : Method := { name := "<init>", desc := "()V", sig := { parameters := [], returnType := none }, accessFlags := 1, code := none }
/-- jdk/internal/util/Preconditions -/
def k16 : Class := { plain "jdk/internal/util/Preconditions" (some 0) with
  accessFlags := 33
  interfaces := #[]
  cf := some (fileOf pool16 24 #[.nestMembers #[55, 131, 125, 114]] #[{ accessFlags := 1, nameIndex := 5, descriptorIndex := 6, attributes := #[] }] 33 2 #[] #[{ accessFlags := 25, nameIndex := 123, descriptorIndex := 124, attributes := #[] }, { accessFlags := 25, nameIndex := 130, descriptorIndex := 124, attributes := #[] }, { accessFlags := 25, nameIndex := 136, descriptorIndex := 124, attributes := #[] }])
  fields := #[{ name := "SIOOBE_FORMATTER", type := (.object "java/util/function/BiFunction"), accessFlags := 25, slot := 0, constantValue := 0 }, { name := "AIOOBE_FORMATTER", type := (.object "java/util/function/BiFunction"), accessFlags := 25, slot := 1, constantValue := 0 }, { name := "IOOBE_FORMATTER", type := (.object "java/util/function/BiFunction"), accessFlags := 25, slot := 2, constantValue := 0 }]
  methods := #[k16m0]
  instanceTypes := #[]
  staticTypes := #[(.object "java/util/function/BiFunction"), (.object "java/util/function/BiFunction"), (.object "java/util/function/BiFunction")]
  resolved := Array.replicate 194 none
  statics := some 2 }

def pool17 : Array CpInfo := pool [(9, u "<init>"), (6, .class_ 18), (1, u "java/lang/Object"), (0, u "()V"), (1, .class_ 23), (1, u "jdk/internal/util/ArraysSupport"), (0, u "LOG2_ARRAY_LONG_INDEX_SCALE"), (0, u "I"), (2, u "U"), (0, u "Ljdk/internal/misc/Unsafe;"), (8, u "BIG_ENDIAN"), (0, u "Z"), (8, u "LOG2_BYTE_BIT_SIZE"), (4, u "LOG2_ARRAY_INT_INDEX_SCALE"), (54, u "JLA"), (0, u "Ljdk/internal/access/JavaLangAccess;"), (11, u "LOG2_ARRAY_BOOLEAN_INDEX_SCALE"), (9, u "LOG2_ARRAY_BYTE_INDEX_SCALE"), (5, u "LOG2_ARRAY_CHAR_INDEX_SCALE"), (5, u "LOG2_ARRAY_SHORT_INDEX_SCALE"), (18, u "LOG2_ARRAY_FLOAT_INDEX_SCALE"), (24, u "LOG2_ARRAY_DOUBLE_INDEX_SCALE"), (89, u "T_BOOLEAN"), (2, u "T_CHAR"), (1, u "T_FLOAT"), (1, u "T_DOUBLE"), (1, u "T_BYTE"), (1, u "T_SHORT"), (1, u "T_INT"), (1, u "T_LONG"), (1, u "SOFT_MAX_ARRAY_LENGTH")] 83

def k17m0 : Method := { name := "<init>", desc := "()V", sig := { parameters := [], returnType := none }, accessFlags := 2, code := none }
/-- jdk/internal/util/ArraysSupport -/
def k17 : Class := { plain "jdk/internal/util/ArraysSupport" (some 0) with
  accessFlags := 33
  interfaces := #[]
  cf := some (fileOf pool17 21 #[] #[{ accessFlags := 2, nameIndex := 9, descriptorIndex := 19, attributes := #[] }] 33 16 #[] #[{ accessFlags := 24, nameIndex := 28, descriptorIndex := 29, attributes := #[] }, { accessFlags := 26, nameIndex := 38, descriptorIndex := 39, attributes := #[] }, { accessFlags := 25, nameIndex := 121, descriptorIndex := 25, attributes := #[] }, { accessFlags := 25, nameIndex := 131, descriptorIndex := 25, attributes := #[] }, { accessFlags := 25, nameIndex := 137, descriptorIndex := 25, attributes := #[] }, { accessFlags := 25, nameIndex := 143, descriptorIndex := 25, attributes := #[] }, { accessFlags := 25, nameIndex := 53, descriptorIndex := 25, attributes := #[] }, { accessFlags := 25, nameIndex := 24, descriptorIndex := 25, attributes := #[] }, { accessFlags := 25, nameIndex := 162, descriptorIndex := 25, attributes := #[] }, { accessFlags := 25, nameIndex := 187, descriptorIndex := 25, attributes := #[] }, { accessFlags := 26, nameIndex := 48, descriptorIndex := 25, attributes := #[] }, { accessFlags := 25, nameIndex := 277, descriptorIndex := 25, attributes := #[] }, { accessFlags := 25, nameIndex := 280, descriptorIndex := 25, attributes := #[] }, { accessFlags := 25, nameIndex := 282, descriptorIndex := 25, attributes := #[] }, { accessFlags := 25, nameIndex := 284, descriptorIndex := 25, attributes := #[] }, { accessFlags := 25, nameIndex := 286, descriptorIndex := 25, attributes := #[] }, { accessFlags := 25, nameIndex := 288, descriptorIndex := 25, attributes := #[] }, { accessFlags := 25, nameIndex := 290, descriptorIndex := 25, attributes := #[] }, { accessFlags := 25, nameIndex := 292, descriptorIndex := 25, attributes := #[] }, { accessFlags := 26, nameIndex := 108, descriptorIndex := 109, attributes := #[] }, { accessFlags := 25, nameIndex := 294, descriptorIndex := 25, attributes := #[] }])
  fields := #[{ name := "U", type := (.object "jdk/internal/misc/Unsafe"), accessFlags := 24, slot := 0, constantValue := 0 }, { name := "BIG_ENDIAN", type := .boolean, accessFlags := 26, slot := 1, constantValue := 0 }, { name := "LOG2_ARRAY_BOOLEAN_INDEX_SCALE", type := .int, accessFlags := 25, slot := 2, constantValue := 0 }, { name := "LOG2_ARRAY_BYTE_INDEX_SCALE", type := .int, accessFlags := 25, slot := 3, constantValue := 0 }, { name := "LOG2_ARRAY_CHAR_INDEX_SCALE", type := .int, accessFlags := 25, slot := 4, constantValue := 0 }, { name := "LOG2_ARRAY_SHORT_INDEX_SCALE", type := .int, accessFlags := 25, slot := 5, constantValue := 0 }, { name := "LOG2_ARRAY_INT_INDEX_SCALE", type := .int, accessFlags := 25, slot := 6, constantValue := 0 }, { name := "LOG2_ARRAY_LONG_INDEX_SCALE", type := .int, accessFlags := 25, slot := 7, constantValue := 0 }, { name := "LOG2_ARRAY_FLOAT_INDEX_SCALE", type := .int, accessFlags := 25, slot := 8, constantValue := 0 }, { name := "LOG2_ARRAY_DOUBLE_INDEX_SCALE", type := .int, accessFlags := 25, slot := 9, constantValue := 0 }, { name := "LOG2_BYTE_BIT_SIZE", type := .int, accessFlags := 26, slot := 10, constantValue := 0 }, { name := "T_BOOLEAN", type := .int, accessFlags := 25, slot := 11, constantValue := 0 }, { name := "T_CHAR", type := .int, accessFlags := 25, slot := 12, constantValue := 0 }, { name := "T_FLOAT", type := .int, accessFlags := 25, slot := 13, constantValue := 0 }, { name := "T_DOUBLE", type := .int, accessFlags := 25, slot := 14, constantValue := 0 }, { name := "T_BYTE", type := .int, accessFlags := 25, slot := 15, constantValue := 0 }, { name := "T_SHORT", type := .int, accessFlags := 25, slot := 16, constantValue := 0 }, { name := "T_INT", type := .int, accessFlags := 25, slot := 17, constantValue := 0 }, { name := "T_LONG", type := .int, accessFlags := 25, slot := 18, constantValue := 0 }, { name := "JLA", type := (.object "jdk/internal/access/JavaLangAccess"), accessFlags := 26, slot := 19, constantValue := 0 }, { name := "SOFT_MAX_ARRAY_LENGTH", type := .int, accessFlags := 25, slot := 20, constantValue := 0 }]
  methods := #[k17m0]
  instanceTypes := #[]
  staticTypes := #[(.object "jdk/internal/misc/Unsafe"), .boolean, .int, .int, .int, .int, .int, .int, .int, .int, .int, .int, .int, .int, .int, .int, .int, .int, .int, (.object "jdk/internal/access/JavaLangAccess"), .int]
  resolved := Array.replicate 378 none
  statics := none }

def pool18 : Array CpInfo := pool [(1, u "java/lang/Cloneable"), (0, .class_ 1), (0, u "java/lang/Object"), (0, .class_ 3)] 3

/-- java/lang/Cloneable -/
def k18 : Class := { plain "java/lang/Cloneable" (some 0) with
  accessFlags := 1537
  interfaces := #[]
  cf := some (fileOf pool18 2 #[] #[] 1537 4 #[] #[])
  fields := #[]
  methods := #[]
  instanceTypes := #[]
  staticTypes := #[]
  resolved := Array.replicate 8 none
  statics := none }

/-- the primitive byte -/
def k19 : Class := { plain "byte" none with kind := .primitive 'B', accessFlags := 0x411 }
/-- [B -/
def k20 : Class := { plain "[B" (some 0) with kind := .array 19 .byte, interfaces := #[18, 4], accessFlags := 1041 }

/-- the primitive char -/
def k21 : Class := { plain "char" none with kind := .primitive 'C', accessFlags := 0x411 }
/-- [C -/
def k22 : Class := { plain "[C" (some 0) with kind := .array 21 .char, interfaces := #[18, 4], accessFlags := 1041 }

/-- the primitive int -/
def k23 : Class := { plain "int" none with kind := .primitive 'I', accessFlags := 0x411 }
/-- [I -/
def k24 : Class := { plain "[I" (some 0) with kind := .array 23 .int, interfaces := #[18, 4], accessFlags := 1041 }

def heap : Heap := #[{ cls := 6, slots := #[.ref 3, .ref 3, .ref 3, .ref 3, .null], vm := .statics 6 },
  { cls := 11, slots := #[.long 0, .int 1, .null, .int 0, .null, .int 0, .int 0], vm := .statics 11 },
  { cls := 16, slots := #[.null, .null, .null], vm := .statics 16 },
  { cls := 6, slots := #[.null, .int 0, .int 0], vm := .none }]
def classes : Array Class := #[k0, k1, k2, k3, k4, k5, k6, k7, k8, k9, k10, k11, k12, k13, k14, k15, k16, k17, k18, k19, k20, k21, k22, k23, k24]
def interned : List (Array UInt16 × Addr) := []
def slotsUsed : Nat := 18
def theMethod : MethodId := ⟨1, 1⟩
def args0 : Array Value := #[.int 5, .int 1, .int 2, .int 3, .int 4]
def aboutOver (below : List Frame) : State where
  vm := { classes := classes, interned := interned.toArray }
  heap := heap
  slotsUsed := slotsUsed
  threads := #[{ frames := .invoking theMethod args0 :: below }]
def below0 : List Frame := [.native { method := ⟨0, 0⟩, args := #[] }]
def about1 : State := aboutOver below0
def p0 : Program := .bare "" "" ""
def e0 : Env := launch0.env 0 0 0
theorem w_frames : about1.frames = Frame.invoking theMethod args0 :: below0 := rfl
set_option maxRecDepth 65536 in
theorem w_args : argsFit about1.vm theMethod args0 = true := by decide +kernel
set_option maxRecDepth 65536 in
theorem w_heap : heapFits about1 = true := by decide +kernel
set_option maxRecDepth 65536 in
theorem w_runnable : about1.curStatus? = some .runnable := by decide +kernel
set_option maxRecDepth 65536 in
theorem w_alone : about1.alone = true := by decide +kernel
set_option maxRecDepth 65536 in
theorem w_named : about1.methodNamed? x = some theMethod := by decide +kernel
set_option maxRecDepth 65536 in
theorem w_hears : about1.hears theMethod below0 = true := by decide +kernel
set_option maxRecDepth 65536 in
theorem w_ripe : about1.ripe theMethod args0 below0 = true := by decide +kernel
theorem w_running : about1.status = .running := rfl
set_option maxRecDepth 65536 in
theorem w_room : about1.hasRoom e0.platform room_1 = true :=
  launch0.hasRoom_least _ room_1 (by decide +kernel) (by decide +kernel) (by decide +kernel) (by decide +kernel) (by decide +kernel) (by decide +kernel)
theorem allAtoms_all (ts : List Jvm.Cond) (a : Array Jvm.Value) (st : Jvm.State) : (allAtoms ts).before a st = ts.all (fun c => c.before a st) := by
  induction ts with
  | nil => rfl
  | cons c t ih =>
    show (Jvm.Cond.and c (allAtoms t)).before a st = _
    rw [Jvm.Cond.before_and, ih, List.all_cons]
def words1 : List Jvm.Cond := Jvm.Cond.code x code maxLocals ret :: tables_1
/-- a 'code' word, met by the world's own term for the bytes: nothing is compared byte by byte -/
theorem code_word {y : MethodName} {bytes : ByteArray} {mx : Nat} {rt : Option FieldType} {a : Array Value} {s : State} {m : MethodId} {meth : Method} {c : Code} (h1 : s.methodNamed? y = some m) (h2 : s.vm.method? m = some meth) (h3 : meth.code = some c) (h4 : c.code = bytes)
    (h5 : (c.maxLocals == mx && c.exceptionTable.isEmpty && decide (c.maxStack ≤ mostOperands) && decide (meth.sig.returnType = rt) && !meth.locks && decide (parseMethodDescriptor y.desc = some meth.sig)) = true) : (Jvm.Cond.code y bytes mx rt).before a s = true := by
  simp only [Bool.and_eq_true, beq_iff_eq, Bool.not_eq_true', decide_eq_true_eq] at h5
  obtain ⟨⟨⟨⟨⟨g1, g2⟩, g3⟩, g4⟩, g5⟩, g6⟩ := h5
  simp [Cond.before, Cond.holds, Cond.value, h1, h2, h3, h4, g1, g2, g3, g4, g5, g6]
def isCode : Jvm.Cond → Bool
  | .code _ _ _ _ => true
  | _ => false
theorem all_split {L : List Jvm.Cond} {P : Jvm.Cond → Bool} (h1 : L.all (fun c => isCode c || P c) = true) (h2 : ∀ c ∈ L.filter isCode, P c = true) : L.all P = true := by
  refine List.all_eq_true.mpr fun c hc => ?_
  have h := List.all_eq_true.mp h1 c hc
  rcases Bool.eq_false_or_eq_true (isCode c) with hi | hi
  · exact h2 c (List.mem_filter.mpr ⟨hc, hi⟩)
  · simpa [hi] using h
set_option maxRecDepth 65536 in
theorem w_c0 : (Jvm.Cond.code x code maxLocals ret).before args0 about1 = true := code_word (m := ⟨1, 1⟩) (meth := k1m1) (c := k1c1) (by decide +kernel) rfl rfl rfl (by decide +kernel)
set_option maxRecDepth 65536 in
theorem w_c1 : (Jvm.Cond.code ({ cls := "com/example/kindred/kindred/matching/Preparation", name := "<init>", desc := "(ZLjava/lang/String;Lcom/example/kindred/kindred/matching/Preparation$LetterCase;Lcom/example/kindred/kindred/matching/Preparation$Take;)V" } : Jvm.MethodName) prog_19_method_1_code (5 : Nat) (Option.none : Option Jvm.ClassFile.FieldType)).before args0 about1 = true := code_word (m := ⟨8, 0⟩) (meth := k8m0) (c := k8c0) (by decide +kernel) rfl rfl rfl (by decide +kernel)
set_option maxRecDepth 65536 in
theorem w_c2 : (Jvm.Cond.code ({ cls := "java/lang/Record", name := "<init>", desc := "()V" } : Jvm.MethodName) jdk_30_method_1_code (1 : Nat) (Option.none : Option Jvm.ClassFile.FieldType)).before args0 about1 = true := code_word (m := ⟨7, 0⟩) (meth := k7m0) (c := k7c0) (by decide +kernel) rfl rfl rfl (by decide +kernel)
set_option maxRecDepth 65536 in
theorem w_c3 : (Jvm.Cond.code ({ cls := "java/lang/Object", name := "<init>", desc := "()V" } : Jvm.MethodName) object_method_1_code (1 : Nat) (Option.none : Option Jvm.ClassFile.FieldType)).before args0 about1 = true := code_word (m := ⟨0, 0⟩) (meth := k0m0) (c := k0c0) (by decide +kernel) rfl rfl rfl (by decide +kernel)
set_option maxRecDepth 65536 in
theorem w_c4 : (Jvm.Cond.code ({ cls := "com/example/kindred/kindred/matching/Preparation", name := "keepsEveryCharacter", desc := "()Z" } : Jvm.MethodName) prog_19_method_4_code (1 : Nat) (Option.some Jvm.ClassFile.FieldType.boolean)).before args0 about1 = true := code_word (m := ⟨8, 1⟩) (meth := k8m1) (c := k8c1) (by decide +kernel) rfl rfl rfl (by decide +kernel)
set_option maxRecDepth 65536 in
theorem w_c5 : (Jvm.Cond.code ({ cls := "java/lang/String", name := "<init>", desc := "([C)V" } : Jvm.MethodName) jdk_42_method_3_code (2 : Nat) (Option.none : Option Jvm.ClassFile.FieldType)).before args0 about1 = true := code_word (m := ⟨11, 1⟩) (meth := k11m1) (c := k11c1) (by decide +kernel) rfl rfl rfl (by decide +kernel)
set_option maxRecDepth 65536 in
theorem w_c6 : (Jvm.Cond.code ({ cls := "java/lang/String", name := "<init>", desc := "([CIILjava/lang/Void;)V" } : Jvm.MethodName) jdk_42_method_149_code (6 : Nat) (Option.none : Option Jvm.ClassFile.FieldType)).before args0 about1 = true := code_word (m := ⟨11, 3⟩) (meth := k11m3) (c := k11c3) (by decide +kernel) rfl rfl rfl (by decide +kernel)
set_option maxRecDepth 65536 in
theorem w_c7 : (Jvm.Cond.code ({ cls := "java/lang/Math", name := "max", desc := "(II)I" } : Jvm.MethodName) jdk_29_method_65_code (2 : Nat) (Option.some Jvm.ClassFile.FieldType.int)).before args0 about1 = true := code_word (m := ⟨13, 1⟩) (meth := k13m1) (c := k13c1) (by decide +kernel) rfl rfl rfl (by decide +kernel)
set_option maxRecDepth 65536 in
theorem w_c8 : (Jvm.Cond.code ({ cls := "com/example/kindred/kindred/matching/Preparation$Take", name := "<init>", desc := "(ZI)V" } : Jvm.MethodName) prog_21_method_1_code (3 : Nat) (Option.none : Option Jvm.ClassFile.FieldType)).before args0 about1 = true := code_word (m := ⟨12, 0⟩) (meth := k12m0) (c := k12c0) (by decide +kernel) rfl rfl rfl (by decide +kernel)
set_option maxRecDepth 65536 in
theorem w_c9 : (Jvm.Cond.code ({ cls := "java/lang/StringUTF16", name := "compress", desc := "([CII)[B" } : Jvm.MethodName) jdk_52_method_16_code (6 : Nat) (Option.some (Jvm.ClassFile.FieldType.array Jvm.ClassFile.FieldType.byte))).before args0 about1 = true := code_word (m := ⟨14, 2⟩) (meth := k14m2) (c := k14c2) (by decide +kernel) rfl rfl rfl (by decide +kernel)
set_option maxRecDepth 65536 in
theorem w_c10 : (Jvm.Cond.code ({ cls := "java/lang/StringUTF16", name := "compress", desc := "([CI[BII)I" } : Jvm.MethodName) jdk_52_method_21_code (7 : Nat) (Option.some Jvm.ClassFile.FieldType.int)).before args0 about1 = true := code_word (m := ⟨14, 3⟩) (meth := k14m3) (c := k14c3) (by decide +kernel) rfl rfl rfl (by decide +kernel)
set_option maxRecDepth 65536 in
theorem w_c11 : (Jvm.Cond.code ({ cls := "java/lang/StringUTF16", name := "coderFromArrayLen", desc := "([BI)B" } : Jvm.MethodName) jdk_52_method_15_code (2 : Nat) (Option.some Jvm.ClassFile.FieldType.byte)).before args0 about1 = true := code_word (m := ⟨14, 1⟩) (meth := k14m1) (c := k14c1) (by decide +kernel) rfl rfl rfl (by decide +kernel)
set_option maxRecDepth 65536 in
theorem w_c12 : (Jvm.Cond.code ({ cls := "java/lang/String", name := "valueOf", desc := "(C)Ljava/lang/String;" } : Jvm.MethodName) jdk_42_method_139_code (1 : Nat) (Option.some (Jvm.ClassFile.FieldType.object "java/lang/String"))).before args0 about1 = true := code_word (m := ⟨11, 2⟩) (meth := k11m2) (c := k11c2) (by decide +kernel) rfl rfl rfl (by decide +kernel)
set_option maxRecDepth 65536 in
theorem w_c13 : (Jvm.Cond.code ({ cls := "java/lang/StringLatin1", name := "canEncode", desc := "(C)Z" } : Jvm.MethodName) jdk_43_method_3_code (1 : Nat) (Option.some Jvm.ClassFile.FieldType.boolean)).before args0 about1 = true := code_word (m := ⟨15, 1⟩) (meth := k15m1) (c := k15c1) (by decide +kernel) rfl rfl rfl (by decide +kernel)
set_option maxRecDepth 65536 in
theorem w_c14 : (Jvm.Cond.code ({ cls := "java/lang/StringLatin1", name := "toBytes", desc := "(C)[B" } : Jvm.MethodName) jdk_43_method_46_code (1 : Nat) (Option.some (Jvm.ClassFile.FieldType.array Jvm.ClassFile.FieldType.byte))).before args0 about1 = true := code_word (m := ⟨15, 2⟩) (meth := k15m2) (c := k15c2) (by decide +kernel) rfl rfl rfl (by decide +kernel)
set_option maxRecDepth 65536 in
theorem w_c15 : (Jvm.Cond.code ({ cls := "java/lang/String", name := "<init>", desc := "([BB)V" } : Jvm.MethodName) jdk_42_method_151_code (3 : Nat) (Option.none : Option Jvm.ClassFile.FieldType)).before args0 about1 = true := code_word (m := ⟨11, 4⟩) (meth := k11m4) (c := k11c4) (by decide +kernel) rfl rfl rfl (by decide +kernel)
def codes1 : List Jvm.Cond := [Jvm.Cond.code x code maxLocals ret, Jvm.Cond.code ({ cls := "com/example/kindred/kindred/matching/Preparation", name := "<init>", desc := "(ZLjava/lang/String;Lcom/example/kindred/kindred/matching/Preparation$LetterCase;Lcom/example/kindred/kindred/matching/Preparation$Take;)V" } : Jvm.MethodName) prog_19_method_1_code (5 : Nat) (Option.none : Option Jvm.ClassFile.FieldType), Jvm.Cond.code ({ cls := "java/lang/Record", name := "<init>", desc := "()V" } : Jvm.MethodName) jdk_30_method_1_code (1 : Nat) (Option.none : Option Jvm.ClassFile.FieldType), Jvm.Cond.code ({ cls := "java/lang/Object", name := "<init>", desc := "()V" } : Jvm.MethodName) object_method_1_code (1 : Nat) (Option.none : Option Jvm.ClassFile.FieldType), Jvm.Cond.code ({ cls := "com/example/kindred/kindred/matching/Preparation", name := "keepsEveryCharacter", desc := "()Z" } : Jvm.MethodName) prog_19_method_4_code (1 : Nat) (Option.some Jvm.ClassFile.FieldType.boolean), Jvm.Cond.code ({ cls := "java/lang/String", name := "<init>", desc := "([C)V" } : Jvm.MethodName) jdk_42_method_3_code (2 : Nat) (Option.none : Option Jvm.ClassFile.FieldType), Jvm.Cond.code ({ cls := "java/lang/String", name := "<init>", desc := "([CIILjava/lang/Void;)V" } : Jvm.MethodName) jdk_42_method_149_code (6 : Nat) (Option.none : Option Jvm.ClassFile.FieldType), Jvm.Cond.code ({ cls := "java/lang/Math", name := "max", desc := "(II)I" } : Jvm.MethodName) jdk_29_method_65_code (2 : Nat) (Option.some Jvm.ClassFile.FieldType.int), Jvm.Cond.code ({ cls := "com/example/kindred/kindred/matching/Preparation$Take", name := "<init>", desc := "(ZI)V" } : Jvm.MethodName) prog_21_method_1_code (3 : Nat) (Option.none : Option Jvm.ClassFile.FieldType), Jvm.Cond.code ({ cls := "java/lang/StringUTF16", name := "compress", desc := "([CII)[B" } : Jvm.MethodName) jdk_52_method_16_code (6 : Nat) (Option.some (Jvm.ClassFile.FieldType.array Jvm.ClassFile.FieldType.byte)), Jvm.Cond.code ({ cls := "java/lang/StringUTF16", name := "compress", desc := "([CI[BII)I" } : Jvm.MethodName) jdk_52_method_21_code (7 : Nat) (Option.some Jvm.ClassFile.FieldType.int), Jvm.Cond.code ({ cls := "java/lang/StringUTF16", name := "coderFromArrayLen", desc := "([BI)B" } : Jvm.MethodName) jdk_52_method_15_code (2 : Nat) (Option.some Jvm.ClassFile.FieldType.byte), Jvm.Cond.code ({ cls := "java/lang/String", name := "valueOf", desc := "(C)Ljava/lang/String;" } : Jvm.MethodName) jdk_42_method_139_code (1 : Nat) (Option.some (Jvm.ClassFile.FieldType.object "java/lang/String")), Jvm.Cond.code ({ cls := "java/lang/StringLatin1", name := "canEncode", desc := "(C)Z" } : Jvm.MethodName) jdk_43_method_3_code (1 : Nat) (Option.some Jvm.ClassFile.FieldType.boolean), Jvm.Cond.code ({ cls := "java/lang/StringLatin1", name := "toBytes", desc := "(C)[B" } : Jvm.MethodName) jdk_43_method_46_code (1 : Nat) (Option.some (Jvm.ClassFile.FieldType.array Jvm.ClassFile.FieldType.byte)), Jvm.Cond.code ({ cls := "java/lang/String", name := "<init>", desc := "([BB)V" } : Jvm.MethodName) jdk_42_method_151_code (3 : Nat) (Option.none : Option Jvm.ClassFile.FieldType)]
set_option maxRecDepth 65536 in
theorem codes_eq : words1.filter isCode = codes1 := rfl
theorem w_codes : ∀ c ∈ words1.filter isCode, c.before args0 about1 = true := by
  rw [codes_eq]
  intro c hc
  simp only [codes1, List.mem_cons, List.not_mem_nil, or_false] at hc
  rcases hc with rfl | rfl | rfl | rfl | rfl | rfl | rfl | rfl | rfl | rfl | rfl | rfl | rfl | rfl | rfl | rfl
  · exact w_c0
  · exact w_c1
  · exact w_c2
  · exact w_c3
  · exact w_c4
  · exact w_c5
  · exact w_c6
  · exact w_c7
  · exact w_c8
  · exact w_c9
  · exact w_c10
  · exact w_c11
  · exact w_c12
  · exact w_c13
  · exact w_c14
  · exact w_c15
set_option maxRecDepth 65536 in
theorem w_t1 : (words1.take 24).all (fun c => isCode c || c.before args0 about1) = true := by decide +kernel
set_option maxRecDepth 65536 in
theorem w_t2 : ((words1.drop 24).take 24).all (fun c => isCode c || c.before args0 about1) = true := by decide +kernel
set_option maxRecDepth 65536 in
theorem w_t3 : (((words1.drop 24).drop 24).take 24).all (fun c => isCode c || c.before args0 about1) = true := by decide +kernel
set_option maxRecDepth 65536 in
theorem w_t4 : ((((words1.drop 24).drop 24).drop 24).take 24).all (fun c => isCode c || c.before args0 about1) = true := by decide +kernel
set_option maxRecDepth 65536 in
theorem w_t5 : ((((words1.drop 24).drop 24).drop 24).drop 24).all (fun c => isCode c || c.before args0 about1) = true := by decide +kernel
theorem w_tables : (allAtoms (Jvm.Cond.code x code maxLocals ret :: tables_1)).before args0 about1 = true := by
  rw [allAtoms_all]
  show words1.all (fun c => c.before args0 about1) = true
  refine all_split ?_ w_codes
  rw [← List.take_append_drop 24 words1, List.all_append, w_t1, ← List.take_append_drop 24 (words1.drop 24), List.all_append, w_t2, ← List.take_append_drop 24 ((words1.drop 24).drop 24), List.all_append, w_t3, ← List.take_append_drop 24 (((words1.drop 24).drop 24).drop 24), List.all_append, w_t4, w_t5]
  rfl
set_option maxRecDepth 65536 in
theorem w_rest : rest_1_c.before args0 about1 = true := by decide +kernel
set_option maxRecDepth 65536 in
theorem w_case : (Jvm.Cond.and given_1 narrow_1).before args0 about1 = true := by decide +kernel
set_option maxRecDepth 65536 in
theorem w_consts : constsHeld consts_1 about1 := Jvm.Lit.constsHeldB_iff.mp (by decide +kernel)
theorem w_applies : (headSpec (Jvm.Cond.code x code maxLocals ret :: tables_1) room_1).applies x e0.platform about1 = true :=
  (Spec.applies_iff w_frames).mpr ⟨w_running, w_runnable, w_alone, w_named, w_hears, w_ripe, w_room, w_tables⟩
theorem atStart : AtStart classFile x code maxLocals ret World_1 tables_1 room_1 Calls_1 rest_1 Pre_1 launch0 p0 e0 about1 theMethod args0 below0 :=
  ⟨lists_1, trivial, launch0.admits_env _ _ _, launch0.least_env, fairChoices_fair.cas, fairChoices_fair.clock, w_frames, w_args, w_heap, w_applies, ⟨w_consts, trivial⟩, w_rest, w_case⟩
end start1
theorem witness_1 : WitnessClaimed_1 := ⟨start1.p0, start1.e0, start1.about1, start1.theMethod, start1.args0, start1.below0, start1.atStart⟩
end Jvm.Pilot.@@N@@
