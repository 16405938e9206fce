import JvmDerived
import JvmDerived.Pilot.@@N@@Statement
import JvmDerived.Pilot.@@N@@Code
set_option linter.unusedVariables false
set_option linter.unusedSimpArgs false
/- laws to paste: Road.backV, Road.eqW (cut by pick.py; bodies as the Statement names them) -/
namespace Jvm.Pilot.@@N@@
namespace StrChars
open Jvm Sem ClassFile Op Lib Jvm.Stand Jvm.Free.XT Jvm.Free.ALB Jvm.Free.JM Jvm.Free
open Jvm.Lib.Cold (StaticIs)
/-- a char array whose places are chars -/
def Ch (a : Addr) (A : Cell) (U : State) : Prop := Arr .char a A U ∧ Typed .char A
theorem Ch.mv {a : Addr} {A : Cell} {U U' : State} (h : Ch a A U) (hal : U.vm.Alike U'.vm) (hh : U'.heap = U.heap) : Ch a A U' := ⟨h.1.mv hal hh, h.2⟩
theorem Ch.keep {a : Addr} {A : Cell} {U U' : State} (h : Ch a A U) (hal : U.vm.Alike U'.vm) (hk : U'.heap[a]? = some A) : Ch a A U' := ⟨h.1.keep hal hk, h.2⟩
/-- what place i of a char[]'s cell holds -/
def cv (A : Cell) (i : Nat) : Int32 := match A.slots[i]? with | some (.int x) => x | _ => 0
theorem Ch.get {a : Addr} {A : Cell} {U : State} (h : Ch a A U) {i : Nat} (hi : i < A.slots.size) : A.slots[i]? = some (.int (cv A i)) := by
  have e := Array.getElem?_eq_getElem hi
  have f := h.2 i _ e
  unfold cv; rw [e]
  generalize A.slots[i] = v at f
  cases v <;> simp [fits] at f ⊢
/-- the byte that i2b leaves of a char -/
def lo8 (x : Int32) : Int32 := x.toInt8.toInt32
theorem fits_lo8 (y : Int32) : fits .byte (.int (lo8 y)) = true := by
  have h1 := y.toInt8.le_toInt
  have h2 := y.toInt8.toInt_lt
  simp only [lo8, fits, Bool.and_eq_true, decide_eq_true_eq, Int32.le_iff_toInt_le, Int8.toInt_toInt32, show (-128 : Int32).toInt = -128 from by decide, show (127 : Int32).toInt = 127 from by decide]
  omega
/-- A' is A but that each place j of lo .. hi - 1 holds f j -/
def Laid (A A' : Cell) (lo hi : Nat) (f : Nat → Value) : Prop := A'.cls = A.cls ∧ A'.vm = A.vm ∧ A'.slots.size = A.slots.size ∧ ∀ i, A'.slots[i]? = if lo ≤ i ∧ i < hi then some (f i) else A.slots[i]?
theorem Laid.zero (A : Cell) (lo : Nat) (f : Nat → Value) : Laid A A lo (lo + 0) f := ⟨rfl, rfl, rfl, fun i => by rw [if_neg (by omega)]⟩
theorem Laid.step {A Ak : Cell} {lo k : Nat} {f : Nat → Value} {v : Value} (h : Laid A Ak lo k f) (hlo : lo ≤ k) (hk : k < Ak.slots.size) (hv : v = f k) : Laid A (Ak.setSlot k v) lo (k + 1) f := by
  refine ⟨h.1, h.2.1, by simpa [Cell.setSlot] using h.2.2.1, fun i => ?_⟩
  by_cases e : k = i
  · subst e; rw [Cell.slots_setSlot_self v hk, if_pos (by omega), hv]
  · rw [Cell.slots_setSlot_ne v e, h.2.2.2 i]
    by_cases q : lo ≤ i ∧ i < k
    · rw [if_pos q, if_pos (by omega)]
    · rw [if_neg q, if_neg (by omega)]
def U16 : String := "java/lang/StringUTF16"
namespace Cmp5
def yN : MethodName := ⟨"java/lang/StringUTF16", "compress", "([CI[BII)I"⟩
abbrev yB : ByteArray := jdk_52_method_21_code
theorem d0 : decode yB 0 = .ok (.iconst 0, 1) := by decide +kernel
theorem d1 : decode yB 1 = .ok (.istore 5, 2) := by decide +kernel
theorem d3 : decode yB 3 = .ok (.iload 5, 2) := by decide +kernel
theorem d5 : decode yB 5 = .ok (.iload 4, 2) := by decide +kernel
theorem d7 : decode yB 7 = .ok (.if_icmp (.ge) 37, 3) := by decide +kernel
theorem d10 : decode yB 10 = .ok (.aload_n 0, 1) := by decide +kernel
theorem d11 : decode yB 11 = .ok (.iload_n 1, 1) := by decide +kernel
theorem d12 : decode yB 12 = .ok (.caload, 1) := by decide +kernel
theorem d13 : decode yB 13 = .ok (.istore 6, 2) := by decide +kernel
theorem d15 : decode yB 15 = .ok (.iload 6, 2) := by decide +kernel
theorem d17 : decode yB 17 = .ok (.sipush 255, 3) := by decide +kernel
theorem d20 : decode yB 20 = .ok (.if_icmp (.le) 6, 3) := by decide +kernel
theorem d26 : decode yB 26 = .ok (.aload_n 2, 1) := by decide +kernel
theorem d27 : decode yB 27 = .ok (.iload_n 3, 1) := by decide +kernel
theorem d28 : decode yB 28 = .ok (.iload 6, 2) := by decide +kernel
theorem d30 : decode yB 30 = .ok (.i2b, 1) := by decide +kernel
theorem d31 : decode yB 31 = .ok (.bastore, 1) := by decide +kernel
theorem d32 : decode yB 32 = .ok (.iinc 1 1, 3) := by decide +kernel
theorem d35 : decode yB 35 = .ok (.iinc 3 1, 3) := by decide +kernel
theorem d38 : decode yB 38 = .ok (.iinc 5 1, 3) := by decide +kernel
theorem d41 : decode yB 41 = .ok (.goto (-38), 3) := by decide +kernel
theorem d44 : decode yB 44 = .ok (.iload 4, 2) := by decide +kernel
theorem d46 : decode yB 46 = .ok (.ireturn, 1) := by decide +kernel
def site : List Cond := []
def tab : Cond := tabOf yN yB 7 (some .int) site
def P (b : Addr) (A : Cell) (d : Addr) (B : Cell) (o q len : Nat) (args : Array Value) (s : State) : Prop := args = #[.ref b, .int (Int32.ofNat o), .ref d, .int (Int32.ofNat q), .int (Int32.ofNat len)] ∧ Ch b A s ∧ Arr .byte d B s ∧ b ≠ d ∧ o + len ≤ A.slots.size ∧ q + len ≤ B.slots.size ∧ ∀ i, i < len → ¬ 255 < cv A (o + i)
def E (b : Addr) (A : Cell) (d : Addr) (B : Cell) (o q len : Nat) (r : Option Value) (s u : State) : Prop := r = some (.int (Int32.ofNat len)) ∧ ∃ B', Put d B' s u ∧ Laid B B' q (q + len) (fun j => Value.int (lo8 (cv A (o + (j - q)))))
/-- no char of the range above 255: len; the places written hold each char's low byte -/
theorem law (l : Launch) (b : Addr) (A : Cell) (d : Addr) (B : Cell) (o q len : Nat) : Law l yN 5 5 0 0 yB 7 (some .int) site (P b A d B o q len) (E b A d B o q len) (copyLocs d q len) 0 0 := by
  refine Law.of_walk (plainFor_of_name (by decide +kernel)) (by decide +kernel) (by decide +kernel) (by decide) (fun _ _ h => by rw [h.1]; rfl) (fun _ U U' hal hh h => ⟨h.1, h.2.1.mv hal hh, h.2.2.1.mv hal hh, h.2.2.2⟩) (fun r U U' V V' h1 hal h2 h => ⟨h.1, h.2.elim fun B' q => ⟨B', q.1.mv h1 h2, q.2⟩⟩) ?_
  intro p e s m args below meth c s₁ X0 hexec hbytes hml hret hlk hnm hown hh0 W hP
  obtain ⟨rfl, hA, hB, hne, l1, l2, hp⟩ := hP
  have c1 : Steps p.tables e below (s₁.setTop (entryFrame m #[.ref b, .int (Int32.ofNat o), .ref d, .int (Int32.ofNat q), .int (Int32.ofNat len)] 7)) (s₁.setTop (mkF m 0 #[.val (.ref b), .val (.int (Int32.ofNat o)), .val (.ref d), .val (.int (Int32.ofNat q)), .val (.int (Int32.ofNat len)), .unset, .unset] [])) := entry rfl
  have hA0 := hA.1.mv X0.warmed.alike hh0
  have hB0 := hB.mv X0.warmed.alike hh0
  have a31 := hA.1.2.2.2
  have c2 : Steps p.tables e below (s₁.setTop (entryFrame m #[.ref b, .int (Int32.ofNat o), .ref d, .int (Int32.ofNat q), .int (Int32.ofNat len)] 7)) (s₁.setTop (mkF m 3 #[.val (.ref b), .val (.int (Int32.ofNat o)), .val (.ref d), .val (.int (Int32.ofNat q)), .val (.int (Int32.ofNat len)), .val (.int 0), .unset] [])) := c1.trans (by
    refine iconstV X0.here hexec rfl 0 (hb hbytes d0) (by decide) ?_
    refine XS.istore X0.here hexec rfl (hb hbytes d1) rfl rfl ?_
    exact Steps.refl _)
  have loop : ∀ (r i : Nat), i + r = len → ∀ (z : Slot), (z = .unset ∨ ∃ w, z = .val w ∧ w.category = 1) → ∀ (Tl : State) (Bk : Cell), Stand p l e { frames := 0, locals := 0, cells := 0, slots := 0 } s m #[.ref b, .int (Int32.ofNat o), .ref d, .int (Int32.ofNat q), .int (Int32.ofNat len)] below meth c Tl ([] ++ copyLocs d q i) 0 0 → Put d Bk s₁ Tl → Laid B Bk q (q + i) (fun j => Value.int (lo8 (cv A (o + (j - q))))) →
      Steps p.tables e below (s₁.setTop (entryFrame m #[.ref b, .int (Int32.ofNat o), .ref d, .int (Int32.ofNat q), .int (Int32.ofNat len)] 7)) (Tl.setTop (mkF m 3 #[.val (.ref b), .val (.int (Int32.ofNat (o + i))), .val (.ref d), .val (.int (Int32.ofNat (q + i))), .val (.int (Int32.ofNat len)), .val (.int (Int32.ofNat i)), z] [])) → ∃ (T' : State) (B' : Cell) (z' : Slot), Stand p l e { frames := 0, locals := 0, cells := 0, slots := 0 } s m #[.ref b, .int (Int32.ofNat o), .ref d, .int (Int32.ofNat q), .int (Int32.ofNat len)] below meth c T' ([] ++ copyLocs d q len) 0 0 ∧ Put d B' s₁ T' ∧ Laid B B' q (q + len) (fun j => Value.int (lo8 (cv A (o + (j - q))))) ∧
      Steps p.tables e below (s₁.setTop (entryFrame m #[.ref b, .int (Int32.ofNat o), .ref d, .int (Int32.ofNat q), .int (Int32.ofNat len)] 7)) (T'.setTop (mkF m 3 #[.val (.ref b), .val (.int (Int32.ofNat (o + len))), .val (.ref d), .val (.int (Int32.ofNat (q + len))), .val (.int (Int32.ofNat len)), .val (.int (Int32.ofNat len)), z'] [])) := by
    intro r
    induction r with
    | zero =>
      intro i hi z hz Tl Bk Xl pl fl cl
      have hil : i = len := by omega
      rw [hil] at Xl fl cl
      exact ⟨Tl, Bk, z, Xl, pl, fl, cl⟩
    | succ r ih =>
      intro i hi z hz Tl Bk Xl pl fl cl
      have all := X0.warmed.alike.symm.trans Xl.warmed.alike
      have hAl := hA0.keep all (pl.other hne hA0.1)
      have hBk := hB0.like all pl.1 fl.1 fl.2.1 fl.2.2.1
      have hlt : q + i < Bk.slots.size := by rw [fl.2.2.1]; omega
      have c3 : Steps p.tables e below (s₁.setTop (entryFrame m #[.ref b, .int (Int32.ofNat o), .ref d, .int (Int32.ofNat q), .int (Int32.ofNat len)] 7)) (Tl.setTop (mkF m 12 #[.val (.ref b), .val (.int (Int32.ofNat (o + i))), .val (.ref d), .val (.int (Int32.ofNat (q + i))), .val (.int (Int32.ofNat len)), .val (.int (Int32.ofNat i)), z] [.int (Int32.ofNat (o + i)), .ref b])) := cl.trans (by
        refine XS.iload Xl.here hexec rfl (hb hbytes d3) rfl ?_
        refine XS.iload Xl.here hexec rfl (hb hbytes d5) rfl ?_
        refine XS.icmpNo Xl.here hexec rfl (hb hbytes d7) rfl (ii_ge_f (lt32 (by omega) (by omega))) ?_
        refine XS.aloadN Xl.here hexec rfl (hb hbytes d10) rfl rfl ?_
        refine XS.iloadN Xl.here hexec rfl (hb hbytes d11) rfl ?_
        exact Steps.refl _)
      have c4 : Steps p.tables e below (s₁.setTop (entryFrame m #[.ref b, .int (Int32.ofNat o), .ref d, .int (Int32.ofNat q), .int (Int32.ofNat len)] 7)) (Tl.setTop (mkF m 13 #[.val (.ref b), .val (.int (Int32.ofNat (o + i))), .val (.ref d), .val (.int (Int32.ofNat (q + i))), .val (.int (Int32.ofNat len)), .val (.int (Int32.ofNat i)), z] [.int (cv A (o + i))])) := c3.trans (by
        refine Xl.aget hexec hAl rfl (hA.get (i := o + i) (by omega)) rfl rfl (hb hbytes d12) ?_
        exact Steps.refl _)
      have c5 : Steps p.tables e below (s₁.setTop (entryFrame m #[.ref b, .int (Int32.ofNat o), .ref d, .int (Int32.ofNat q), .int (Int32.ofNat len)] 7)) (Tl.setTop (mkF m 15 #[.val (.ref b), .val (.int (Int32.ofNat (o + i))), .val (.ref d), .val (.int (Int32.ofNat (q + i))), .val (.int (Int32.ofNat len)), .val (.int (Int32.ofNat i)), .val (.int (cv A (o + i)))] [])) := c4.trans (by
        refine XS.istoreS Xl.here hexec rfl (hb hbytes d13) rfl rfl hz ?_
        exact Steps.refl _)
      have c6 : Steps p.tables e below (s₁.setTop (entryFrame m #[.ref b, .int (Int32.ofNat o), .ref d, .int (Int32.ofNat q), .int (Int32.ofNat len)] 7)) (Tl.setTop (mkF m 31 #[.val (.ref b), .val (.int (Int32.ofNat (o + i))), .val (.ref d), .val (.int (Int32.ofNat (q + i))), .val (.int (Int32.ofNat len)), .val (.int (Int32.ofNat i)), .val (.int (cv A (o + i)))] [.int (lo8 (cv A (o + i))), .int (Int32.ofNat (q + i)), .ref d])) := c5.trans (by
        refine XS.iload Xl.here hexec rfl (hb hbytes d15) rfl ?_
        refine sipushV Xl.here hexec rfl 255 (hb hbytes d17) (by decide) ?_
        refine XS.icmpYes Xl.here hexec rfl (pc0 := 20) rfl (hb hbytes d20) rfl (ii_le_t (hp i (by omega))) (by decide) rfl ?_
        refine XS.aloadN Xl.here hexec rfl (hb hbytes d26) rfl rfl ?_
        refine XS.iloadN Xl.here hexec rfl (hb hbytes d27) rfl ?_
        refine XS.iload Xl.here hexec rfl (hb hbytes d28) rfl ?_
        refine i2b Xl.here hexec rfl (hb hbytes d30) rfl ?_
        exact Steps.refl _)
      obtain ⟨T7, X7, p7, st7⟩ := Xl.aput hexec hBk rfl hlt rfl (fits_lo8 (cv A (o + i))) (g := (mkF m 31 #[.val (.ref b), .val (.int (Int32.ofNat (o + i))), .val (.ref d), .val (.int (Int32.ofNat (q + i))), .val (.int (Int32.ofNat len)), .val (.int (Int32.ofNat i)), .val (.int (cv A (o + i)))] [.int (lo8 (cv A (o + i))), .int (Int32.ofNat (q + i)), .ref d])) rfl (rest := []) rfl (hb hbytes d31)
      have c8 : Steps p.tables e below (s₁.setTop (entryFrame m #[.ref b, .int (Int32.ofNat o), .ref d, .int (Int32.ofNat q), .int (Int32.ofNat len)] 7)) (T7.setTop (mkF m 32 #[.val (.ref b), .val (.int (Int32.ofNat (o + i))), .val (.ref d), .val (.int (Int32.ofNat (q + i))), .val (.int (Int32.ofNat len)), .val (.int (Int32.ofNat i)), .val (.int (cv A (o + i)))] [])) := c6.trans (st7 _ (Steps.refl _))
      have c9 : Steps p.tables e below (s₁.setTop (entryFrame m #[.ref b, .int (Int32.ofNat o), .ref d, .int (Int32.ofNat q), .int (Int32.ofNat len)] 7)) (T7.setTop (mkF m 3 #[.val (.ref b), .val (.int (Int32.ofNat (o + i) + 1)), .val (.ref d), .val (.int (Int32.ofNat (q + i) + 1)), .val (.int (Int32.ofNat len)), .val (.int (Int32.ofNat i + 1)), .val (.int (cv A (o + i)))] [])) := c8.trans (by
        refine iincV X7.here hexec rfl 1 (hb hbytes d32) (by decide) rfl rfl ?_
        refine iincV X7.here hexec rfl 1 (hb hbytes d35) (by decide) rfl rfl ?_
        refine iincV X7.here hexec rfl 1 (hb hbytes d38) (by decide) rfl rfl ?_
        refine XS.goto X7.here hexec rfl (pc0 := 41) rfl (hb hbytes d41) (by decide) rfl ?_
        exact Steps.refl _)
      have c10 : Steps p.tables e below (s₁.setTop (entryFrame m #[.ref b, .int (Int32.ofNat o), .ref d, .int (Int32.ofNat q), .int (Int32.ofNat len)] 7)) (T7.setTop (mkF m 3 #[.val (.ref b), .val (.int (Int32.ofNat (o + (i + 1)))), .val (.ref d), .val (.int (Int32.ofNat (q + (i + 1)))), .val (.int (Int32.ofNat len)), .val (.int (Int32.ofNat (i + 1))), .val (.int (cv A (o + i)))] [])) := by
        have := c9
        rw [succ32, succ32, succ32] at this
        exact this
      exact ih (i + 1) (by omega) _ (Or.inr ⟨_, rfl, rfl⟩) T7 _ (by rw [copyLocs_step, ← List.append_assoc]; exact X7) (pl.trans p7) (fl.step (by omega) hlt (by simp)) c10
  obtain ⟨T9, B9, z9, X9, p9, f9, g9⟩ := loop len 0 (by omega) .unset (Or.inl rfl) s₁ B (by simpa [copyLocs] using X0) ⟨hB0.1, fun _ _ => rfl, rfl⟩ (Laid.zero _ _ _) c2
  have c11 : Steps p.tables e below (s₁.setTop (entryFrame m #[.ref b, .int (Int32.ofNat o), .ref d, .int (Int32.ofNat q), .int (Int32.ofNat len)] 7)) (T9.setTop (mkF m 46 #[.val (.ref b), .val (.int (Int32.ofNat (o + len))), .val (.ref d), .val (.int (Int32.ofNat (q + len))), .val (.int (Int32.ofNat len)), .val (.int (Int32.ofNat len)), z9] [.int (Int32.ofNat len)])) := g9.trans (by
    refine XS.iload X9.here hexec rfl (hb hbytes d3) rfl ?_
    refine XS.iload X9.here hexec rfl (hb hbytes d5) rfl ?_
    refine XS.icmpYes X9.here hexec rfl (pc0 := 7) rfl (hb hbytes d7) rfl (ii_ge_t (nlt32 (by omega) (Nat.le_refl _))) (by decide) rfl ?_
    refine XS.iload X9.here hexec rfl (hb hbytes d44) rfl ?_
    exact Steps.refl _)
  exact ⟨T9, some (.int (Int32.ofNat len)), _, _, _, X9, by simp, rfl, rfl, (fun h => by cases h), ⟨rfl, B9, p9.from hh0, f9⟩, fun fs hl => c11.trans (X9.ireturnOut hexec hret rfl (Or.inl rfl) (hb hbytes d46) hl)⟩
end Cmp5
namespace Cmp3
def yN : MethodName := ⟨"java/lang/StringUTF16", "compress", "([CII)[B"⟩
abbrev yB : ByteArray := jdk_52_method_16_code
theorem d0 : decode yB 0 = .ok (.iload_n 2, 1) := by decide +kernel
theorem d1 : decode yB 1 = .ok (.newarray .byte, 2) := by decide +kernel
theorem d3 : decode yB 3 = .ok (.astore_n 3, 1) := by decide +kernel
theorem d4 : decode yB 4 = .ok (.aload_n 0, 1) := by decide +kernel
theorem d5 : decode yB 5 = .ok (.iload_n 1, 1) := by decide +kernel
theorem d6 : decode yB 6 = .ok (.aload_n 3, 1) := by decide +kernel
theorem d7 : decode yB 7 = .ok (.iconst 0, 1) := by decide +kernel
theorem d8 : decode yB 8 = .ok (.iload_n 2, 1) := by decide +kernel
theorem d9 : decode yB 9 = .ok (.invokestatic 115, 3) := by decide +kernel
theorem d12 : decode yB 12 = .ok (.istore 4, 2) := by decide +kernel
theorem d14 : decode yB 14 = .ok (.iload 4, 2) := by decide +kernel
theorem d16 : decode yB 16 = .ok (.iload_n 2, 1) := by decide +kernel
theorem d17 : decode yB 17 = .ok (.if_icmp (.eq) 40, 3) := by decide +kernel
theorem d57 : decode yB 57 = .ok (.aload_n 3, 1) := by decide +kernel
theorem d58 : decode yB 58 = .ok (.areturn, 1) := by decide +kernel
def site : List Cond := [.arrayClass .byte, Cmp5.tab] ++ staticW U16 115 Cmp5.yN
def tab : Cond := tabOf yN yB 6 (some (.array .byte)) site
def P (b : Addr) (A : Cell) (o len : Nat) (args : Array Value) (s : State) : Prop := args = #[.ref b, .int (Int32.ofNat o), .int (Int32.ofNat len)] ∧ Ch b A s ∧ o + len ≤ A.slots.size ∧ len ≤ 536870912 ∧ ∀ i, i < len → ¬ 255 < cv A (o + i)
def E (b : Addr) (A : Cell) (o len : Nat) (r : Option Value) (s u : State) : Prop := NewArr .byte "[B" len (fun j => .int (lo8 (cv A (o + j)))) r s u ∧ u.heap.size = s.heap.size + 1
/-- no char of the range above 255: a new byte[] of their low bytes -/
theorem law (l : Launch) (b : Addr) (A : Cell) (o len : Nat) : Law l yN 3 3 1 18 yB 6 (some (.array .byte)) site (P b A o len) (E b A o len) [] 1 len := by
  refine Law.of_walk (plainFor_of_name (by decide +kernel)) (by decide +kernel) (by decide +kernel) (by decide) (fun _ _ h => by rw [h.1]; rfl) (fun _ U U' hal hh h => ⟨h.1, h.2.1.mv hal hh, h.2.2⟩) (fun r U U' V V' h1 hal h2 h => ⟨NewArr.mv r U U' V V' h1 hal h2 h.1, by rw [h1, h2]; exact h.2⟩) ?_
  intro p e s m args below meth c s₁ X0 hexec hbytes hml hret hlk hnm hown hh0 W hP
  obtain ⟨rfl, hA, l1, l2, hp⟩ := hP
  have a31 := hA.1.2.2.2
  have c1 : Steps p.tables e below (s₁.setTop (entryFrame m #[.ref b, .int (Int32.ofNat o), .int (Int32.ofNat len)] 6)) (s₁.setTop (mkF m 0 #[.val (.ref b), .val (.int (Int32.ofNat o)), .val (.int (Int32.ofNat len)), .unset, .unset, .unset] [])) := entry rfl
  have c2 : Steps p.tables e below (s₁.setTop (entryFrame m #[.ref b, .int (Int32.ofNat o), .int (Int32.ofNat len)] 6)) (s₁.setTop (mkF m 1 #[.val (.ref b), .val (.int (Int32.ofNat o)), .val (.int (Int32.ofNat len)), .unset, .unset, .unset] [.int (Int32.ofNat len)])) := c1.trans (by
    refine XS.iloadN X0.here hexec rfl (hb hbytes d0) rfl ?_
    exact Steps.refl _)
  obtain ⟨T3, B3, X3, ba3, bs3, bv3, bh3, bf3, st3⟩ := X0.anew hexec (atype := .byte) (wk W (.arrayClass .byte)) rfl (by show len * 1 ≤ _; omega) (by omega) (g := (mkF m 1 #[.val (.ref b), .val (.int (Int32.ofNat o)), .val (.int (Int32.ofNat len)), .unset, .unset, .unset] [.int (Int32.ofNat len)])) rfl (hb hbytes d1) (rest := []) rfl (Nat.le_refl _) (by show 0 + len ≤ len; omega)
  rw [hh0] at ba3 st3
  have kp3 : XT.Kept s T3 := (XT.Kept.of_eq hh0).push bh3
  have hA3 := hA.keep X3.warmed.alike (kp3 _ _ hA.1.1)
  have hne : b ≠ s.heap.size := hA.1.ne
  have c4 : Steps p.tables e below (s₁.setTop (entryFrame m #[.ref b, .int (Int32.ofNat o), .int (Int32.ofNat len)] 6)) (T3.setTop (mkF m 3 #[.val (.ref b), .val (.int (Int32.ofNat o)), .val (.int (Int32.ofNat len)), .unset, .unset, .unset] [.ref s.heap.size])) := c2.trans (st3 _ (Steps.refl _))
  have c5 : Steps p.tables e below (s₁.setTop (entryFrame m #[.ref b, .int (Int32.ofNat o), .int (Int32.ofNat len)] 6)) (T3.setTop (mkF m 9 #[.val (.ref b), .val (.int (Int32.ofNat o)), .val (.int (Int32.ofNat len)), .val (.ref s.heap.size), .unset, .unset] [.int (Int32.ofNat len), .int 0, .ref s.heap.size, .int (Int32.ofNat o), .ref b])) := c4.trans (by
    refine XS.astoreN X3.here hexec rfl (hb hbytes d3) rfl rfl rfl ?_
    refine XS.aloadN X3.here hexec rfl (hb hbytes d4) rfl rfl ?_
    refine XS.iloadN X3.here hexec rfl (hb hbytes d5) rfl ?_
    refine XS.aloadN X3.here hexec rfl (hb hbytes d6) rfl rfl ?_
    refine iconstV X3.here hexec rfl 0 (hb hbytes d7) (by decide) ?_
    refine XS.iloadN X3.here hexec rfl (hb hbytes d8) rfl ?_
    exact Steps.refl _)
  obtain ⟨v6, T6, X6, E6, g6⟩ := X3.callS hexec (Cmp5.law l b A s.heap.size B3 o 0 len) hown (wks W (staticW U16 115 Cmp5.yN)) (wk W Cmp5.tab) (W := 0) (Nat.le_of_ble_eq_true rfl) (Nat.le_of_ble_eq_true rfl) (Nat.le_refl _) (by show 0 + len + 0 ≤ len; omega) (g := (mkF m 9 #[.val (.ref b), .val (.int (Int32.ofNat o)), .val (.int (Int32.ofNat len)), .val (.ref s.heap.size), .unset, .unset] [.int (Int32.ofNat len), .int (Int32.ofNat 0), .ref s.heap.size, .int (Int32.ofNat o), .ref b])) rfl (by rw [hml]; rfl) c5 (argsL := [.ref b, .int (Int32.ofNat o), .ref s.heap.size, .int (Int32.ofNat 0), .int (Int32.ofNat len)]) (rest := []) rfl rfl (by show 2 * 0 + 0 ≤ _; decide) (hb hbytes d9) (⟨rfl, hA3, ba3, hne, l1, by rw [bs3]; simp, hp⟩)
  obtain ⟨rfl, B6, p6, f6⟩ := E6
  have c7 : Steps p.tables e below (s₁.setTop (entryFrame m #[.ref b, .int (Int32.ofNat o), .int (Int32.ofNat len)] 6)) (T6.setTop (mkF m 12 #[.val (.ref b), .val (.int (Int32.ofNat o)), .val (.int (Int32.ofNat len)), .val (.ref s.heap.size), .unset, .unset] [.int (Int32.ofNat len)])) := g6
  have c8 : Steps p.tables e below (s₁.setTop (entryFrame m #[.ref b, .int (Int32.ofNat o), .int (Int32.ofNat len)] 6)) (T6.setTop (mkF m 58 #[.val (.ref b), .val (.int (Int32.ofNat o)), .val (.int (Int32.ofNat len)), .val (.ref s.heap.size), .val (.int (Int32.ofNat len)), .unset] [.ref s.heap.size])) := c7.trans (by
    refine XS.istore X6.here hexec rfl (hb hbytes d12) rfl rfl ?_
    refine XS.iload X6.here hexec rfl (hb hbytes d14) rfl ?_
    refine XS.iloadN X6.here hexec rfl (hb hbytes d16) rfl ?_
    refine XS.icmpYes X6.here hexec rfl (pc0 := 17) rfl (hb hbytes d17) rfl (ii_eq_t rfl) (by decide) rfl ?_
    refine XS.aloadN X6.here hexec rfl (hb hbytes d57) rfl rfl ?_
    exact Steps.refl _)
  have X8 := X6.wide (L' := []) (cells' := 1) (slots' := len) (fun x hx hlt => by
    simp only [List.nil_append, copyLocs, List.mem_map, List.mem_range] at hx
    obtain ⟨i, -, rfl⟩ := hx
    exact absurd hlt (Nat.lt_irrefl _)) (Nat.le_refl _) (by omega)
  exact ⟨T6, some (.ref s.heap.size), _, _, _, X8, rfl, rfl, rfl, (fun h => by cases h), ⟨⟨rfl, B6, ba3.like (X3.warmed.alike.symm.trans X6.warmed.alike) p6.1 f6.1 f6.2.1 f6.2.2.1, f6.2.1.trans bv3, by rw [X6.warmed.alike.findClass, f6.1]; exact bf3, by rw [f6.2.2.1, bs3]; simp, fun j hj => by rw [f6.2.2.2 j, if_pos (by omega)]; rfl, kp3.put p6 (Nat.le_refl _)⟩, by rw [p6.2.2, bh3, hh0]; simp⟩, fun fs hl => c8.trans (X8.areturnOut hexec rfl hret rfl (hb hbytes d58) hl)⟩
end Cmp3
namespace CodL
def yN : MethodName := ⟨"java/lang/StringUTF16", "coderFromArrayLen", "([BI)B"⟩
abbrev yB : ByteArray := jdk_52_method_15_code
theorem d0 : decode yB 0 = .ok (.iload_n 1, 1) := by decide +kernel
theorem d1 : decode yB 1 = .ok (.aload_n 0, 1) := by decide +kernel
theorem d2 : decode yB 2 = .ok (.arraylength, 1) := by decide +kernel
theorem d3 : decode yB 3 = .ok (.isub, 1) := by decide +kernel
theorem d4 : decode yB 4 = .ok (.bipush 31, 2) := by decide +kernel
theorem d6 : decode yB 6 = .ok (.iushr, 1) := by decide +kernel
theorem d7 : decode yB 7 = .ok (.i2b, 1) := by decide +kernel
theorem d8 : decode yB 8 = .ok (.ireturn, 1) := by decide +kernel
def site : List Cond := []
def tab : Cond := tabOf yN yB 2 (some .byte) site
def P (d : Addr) (B : Cell) (args : Array Value) (s : State) : Prop := args = #[.ref d, .int (Int32.ofNat B.slots.size)] ∧ Arr .byte d B s
def E (r : Option Value) (s u : State) : Prop := XT.PureE (some (.int 0)) r s u
/-- an array as long as the number of chars: LATIN1 -/
theorem law (l : Launch) (d : Addr) (B : Cell) : Law l yN 2 2 0 0 yB 2 (some .byte) site (P d B) E [] 0 0 := by
  refine Law.of_walk (plainFor_of_name (by decide +kernel)) (by decide +kernel) (by decide +kernel) (by decide) (fun _ _ h => by rw [h.1]; rfl) (fun _ U U' hal hh h => ⟨h.1, h.2.mv hal hh⟩) (fun r U U' V V' h1 hal h2 h => XT.PureE.mv r U U' V V' h1 hal h2 h) ?_
  intro p e s m args below meth c s₁ X0 hexec hbytes hml hret hlk hnm hown hh0 W hP
  obtain ⟨rfl, hB⟩ := hP
  have hB0 := hB.mv X0.warmed.alike hh0
  have c1 : Steps p.tables e below (s₁.setTop (entryFrame m #[.ref d, .int (Int32.ofNat B.slots.size)] 2)) (s₁.setTop (mkF m 0 #[.val (.ref d), .val (.int (Int32.ofNat B.slots.size))] [])) := entry rfl
  have c2 : Steps p.tables e below (s₁.setTop (entryFrame m #[.ref d, .int (Int32.ofNat B.slots.size)] 2)) (s₁.setTop (mkF m 2 #[.val (.ref d), .val (.int (Int32.ofNat B.slots.size))] [.ref d, .int (Int32.ofNat B.slots.size)])) := c1.trans (by
    refine XS.iloadN X0.here hexec rfl (hb hbytes d0) rfl ?_
    refine XS.aloadN X0.here hexec rfl (hb hbytes d1) rfl rfl ?_
    exact Steps.refl _)
  have c3 : Steps p.tables e below (s₁.setTop (entryFrame m #[.ref d, .int (Int32.ofNat B.slots.size)] 2)) (s₁.setTop (mkF m 8 #[.val (.ref d), .val (.int (Int32.ofNat B.slots.size))] [.int (lo8 (ushr (Int32.ofNat B.slots.size - Int32.ofNat B.slots.size) 31))])) := c2.trans (by
    refine X0.alen hexec hB0 rfl rfl (hb hbytes d2) ?_
    refine XS.isub X0.here hexec rfl (hb hbytes d3) rfl ?_
    refine bipushV X0.here hexec rfl 31 (hb hbytes d4) (by decide) ?_
    refine iushr X0.here hexec rfl (hb hbytes d6) rfl ?_
    refine i2b X0.here hexec rfl (hb hbytes d7) rfl ?_
    exact Steps.refl _)
  have e0 : lo8 (ushr (Int32.ofNat B.slots.size - Int32.ofNat B.slots.size) 31) = 0 := by rw [Int32.sub_self]; decide
  rw [e0] at c3
  exact ⟨s₁, some (.int 0), _, _, _, X0, rfl, rfl, rfl, (fun h => by cases h), ⟨rfl, hh0⟩, fun fs hl => c3.trans (X0.ireturnOut hexec hret rfl (Or.inr (Or.inr (Or.inl rfl))) (hb hbytes d8) hl)⟩
end CodL
/-- the String at a is Latin-1 over a new byte[] (the heap's one new cell): the low bytes of the len chars of A from o on; every cell but a is kept -/
def Got (a : Addr) (D : Cell) (fV fC : Field) (A : Cell) (o len : Nat) (r : Option Value) (s u : State) : Prop := r = none ∧ ∃ D' V : Cell, Blank "java/lang/String" a D' u ∧ Same D D' [fV.slot, fC.slot] ∧ D'.slots[fV.slot]? = some (.ref s.heap.size) ∧ D'.slots[fC.slot]? = some (.int 0) ∧ Arr .byte s.heap.size V u ∧ V.vm = .none ∧ u.vm.findClass "[B" = some V.cls ∧ V.slots.size = len ∧ (∀ j, j < len → V.slots[j]? = some (.int (lo8 (cv A (o + j))))) ∧ (∀ (y : Addr) (c : Cell), y ≠ a → s.heap[y]? = some c → u.heap[y]? = some c) ∧ u.heap.size = s.heap.size + 1
theorem Got.mv {a : Addr} {D A : Cell} {fV fC : Field} {o len : Nat} : ∀ r (U U' V V' : State), U'.heap = U.heap → V.vm.Alike V'.vm → V'.heap = V.heap → Got a D fV fC A o len r U V → Got a D fV fC A o len r U' V' :=
  fun r U U' V V' h1 hal h2 ⟨e0, D', X, a1, a2, a3, a4, a5, a6, a7, a8, a9, a10, a11⟩ => ⟨e0, D', X, a1.mv hal h2, a2, by rw [h1]; exact a3, a4, by rw [h1]; exact a5.mv hal h2, a6, by rw [hal.findClass]; exact a7, a8, a9, by rw [h1, h2]; exact a10, by rw [h1, h2]; exact a11⟩
namespace New4
def yN : MethodName := ⟨"java/lang/String", "<init>", "([CIILjava/lang/Void;)V"⟩
abbrev yB : ByteArray := jdk_42_method_149_code
theorem d0 : decode yB 0 = .ok (.aload_n 0, 1) := by decide +kernel
theorem d1 : decode yB 1 = .ok (.invokespecial 1, 3) := by decide +kernel
theorem d4 : decode yB 4 = .ok (.iload_n 3, 1) := by decide +kernel
theorem d5 : decode yB 5 = .ok (.ifCond (.ne) 22, 3) := by decide +kernel
theorem d27 : decode yB 27 = .ok (.getstatic 38, 3) := by decide +kernel
theorem d30 : decode yB 30 = .ok (.ifCond (.eq) 28, 3) := by decide +kernel
theorem d33 : decode yB 33 = .ok (.aload_n 1, 1) := by decide +kernel
theorem d34 : decode yB 34 = .ok (.iload_n 2, 1) := by decide +kernel
theorem d35 : decode yB 35 = .ok (.iload_n 3, 1) := by decide +kernel
theorem d36 : decode yB 36 = .ok (.invokestatic 177, 3) := by decide +kernel
theorem d39 : decode yB 39 = .ok (.astore 5, 2) := by decide +kernel
theorem d41 : decode yB 41 = .ok (.aload_n 0, 1) := by decide +kernel
theorem d42 : decode yB 42 = .ok (.aload 5, 2) := by decide +kernel
theorem d44 : decode yB 44 = .ok (.iload_n 3, 1) := by decide +kernel
theorem d45 : decode yB 45 = .ok (.invokestatic 47, 3) := by decide +kernel
theorem d48 : decode yB 48 = .ok (.putfield 15, 3) := by decide +kernel
theorem d51 : decode yB 51 = .ok (.aload_n 0, 1) := by decide +kernel
theorem d52 : decode yB 52 = .ok (.aload 5, 2) := by decide +kernel
theorem d54 : decode yB 54 = .ok (.putfield 9, 3) := by decide +kernel
theorem d57 : decode yB 57 = .ok (.return_, 1) := by decide +kernel
def site : List Cond := [.fieldLink "java/lang/String" 38 "java/lang/String" "COMPACT_STRINGS" "Z", Cmp3.tab, CodL.tab, .laysFinal "java/lang/String" "java/lang/String" "value" "[B", .fieldLink "java/lang/String" 9 "java/lang/String" "value" "[B", .laysFinal "java/lang/String" "java/lang/String" "coder" "B", .fieldLink "java/lang/String" 15 "java/lang/String" "coder" "B"] ++ objW "java/lang/String" 1 ++ staticW "java/lang/String" 177 Cmp3.yN ++ staticW "java/lang/String" 47 CodL.yN
def tab : Cond := tabOf yN yB 6 none site
def P (a : Addr) (D : Cell) (fV fC : Field) (b : Addr) (A : Cell) (z : Int32) (o len : Nat) (args : Array Value) (s : State) : Prop := args = #[.ref a, .ref b, .int (Int32.ofNat o), .int (Int32.ofNat len), .null] ∧ Blank "java/lang/String" a D s ∧ Found "java/lang/String" "value" "[B" fV s ∧ Found "java/lang/String" "coder" "B" fC s ∧ Ch b A s ∧ StaticIs s "java/lang/String" "COMPACT_STRINGS" "Z" (.int z) ∧ ¬ z = 0 ∧ 0 < len ∧ o + len ≤ A.slots.size ∧ len ≤ 536870912 ∧ ∀ i, i < len → ¬ 255 < cv A (o + i)
def E (a : Addr) (D : Cell) (fV fC : Field) (A : Cell) (o len : Nat) (r : Option Value) (s u : State) : Prop := Got a D fV fC A o len r s u
/-- len > 0, no char of the range above 255: a Latin-1 String of their low bytes -/
theorem law (l : Launch) (a : Addr) (D : Cell) (fV fC : Field) (b : Addr) (A : Cell) (z : Int32) (o len : Nat) : Law l yN 5 4 2 35 yB 6 none site (P a D fV fC b A z o len) (E a D fV fC A o len) [⟨a, fC.slot⟩, ⟨a, fV.slot⟩] 1 len := by
  refine Law.of_walk (plainFor_of_name (by decide +kernel)) (by decide +kernel) (by decide +kernel) (by decide) (fun _ _ h => by rw [h.1]; rfl) (fun _ U U' hal hh h => ⟨h.1, h.2.1.mv hal hh, h.2.2.1.al hal, h.2.2.2.1.al hal, h.2.2.2.2.1.mv hal hh, h.2.2.2.2.2.1.there hal hh, h.2.2.2.2.2.2⟩) (fun r U U' V V' h1 hal h2 h => Got.mv r U U' V V' h1 hal h2 h) ?_
  intro p e s m args below meth c s₁ X0 hexec hbytes hml hret hlk hnm hown hh0 W hP
  obtain ⟨rfl, hB, f1, f2, hA, s1, hz, l0, l1, l2, hp⟩ := hP
  have a31 := hA.1.2.2.2
  have c1 : Steps p.tables e below (s₁.setTop (entryFrame m #[.ref a, .ref b, .int (Int32.ofNat o), .int (Int32.ofNat len), .null] 6)) (s₁.setTop (mkF m 0 #[.val (.ref a), .val (.ref b), .val (.int (Int32.ofNat o)), .val (.int (Int32.ofNat len)), .val .null, .unset] [])) := entry rfl
  have c2 : Steps p.tables e below (s₁.setTop (entryFrame m #[.ref a, .ref b, .int (Int32.ofNat o), .int (Int32.ofNat len), .null] 6)) (s₁.setTop (mkF m 1 #[.val (.ref a), .val (.ref b), .val (.int (Int32.ofNat o)), .val (.int (Int32.ofNat len)), .val .null, .unset] [.ref a])) := c1.trans (by
    refine XS.aloadN X0.here hexec rfl (hb hbytes d0) rfl rfl ?_
    exact Steps.refl _)
  obtain ⟨T3, X3, q3, st3⟩ := X0.oinit hexec hown (wks W (objW "java/lang/String" 1)) (g := (mkF m 1 #[.val (.ref a), .val (.ref b), .val (.int (Int32.ofNat o)), .val (.int (Int32.ofNat len)), .val .null, .unset] [.ref a])) rfl (by rw [hml]; rfl) (rest := []) rfl (hb hbytes d1) (W := 0) (by show 2 * 0 + 0 ≤ _; decide) (Nat.le_of_ble_eq_true rfl) (Nat.le_of_ble_eq_true rfl)
  have hh3 := q3.trans hh0
  have c4 : Steps p.tables e below (s₁.setTop (entryFrame m #[.ref a, .ref b, .int (Int32.ofNat o), .int (Int32.ofNat len), .null] 6)) (T3.setTop (mkF m 27 #[.val (.ref a), .val (.ref b), .val (.int (Int32.ofNat o)), .val (.int (Int32.ofNat len)), .val .null, .unset] [])) := (c2.trans (st3 _ (Steps.refl _))).trans (by
    refine XS.iloadN X3.here hexec rfl (hb hbytes d4) rfl ?_
    refine XS.ifYes X3.here hexec rfl (pc0 := 5) rfl (hb hbytes d5) rfl (i0_ne_t (nz32 (by omega) l0)) (by decide) rfl ?_
    exact Steps.refl _)
  obtain ⟨T5, X5, q5, st5⟩ := X3.sget hexec hown (wk W (.fieldLink "java/lang/String" 38 "java/lang/String" "COMPACT_STRINGS" "Z")) s1 (fun _ _ h => by rw [hh3]; exact h) (g := (mkF m 27 #[.val (.ref a), .val (.ref b), .val (.int (Int32.ofNat o)), .val (.int (Int32.ofNat len)), .val .null, .unset] [])) rfl (hb hbytes d27)
  have hh5 := q5.trans hh3
  have c6 : Steps p.tables e below (s₁.setTop (entryFrame m #[.ref a, .ref b, .int (Int32.ofNat o), .int (Int32.ofNat len), .null] 6)) (T5.setTop (mkF m 30 #[.val (.ref a), .val (.ref b), .val (.int (Int32.ofNat o)), .val (.int (Int32.ofNat len)), .val .null, .unset] [.int z])) := c4.trans (st5 _ (Steps.refl _))
  have c7 : Steps p.tables e below (s₁.setTop (entryFrame m #[.ref a, .ref b, .int (Int32.ofNat o), .int (Int32.ofNat len), .null] 6)) (T5.setTop (mkF m 36 #[.val (.ref a), .val (.ref b), .val (.int (Int32.ofNat o)), .val (.int (Int32.ofNat len)), .val .null, .unset] [.int (Int32.ofNat len), .int (Int32.ofNat o), .ref b])) := c6.trans (by
    refine XS.ifNo X5.here hexec rfl (hb hbytes d30) rfl (i0_eq_f hz) ?_
    refine XS.aloadN X5.here hexec rfl (hb hbytes d33) rfl rfl ?_
    refine XS.iloadN X5.here hexec rfl (hb hbytes d34) rfl ?_
    refine XS.iloadN X5.here hexec rfl (hb hbytes d35) rfl ?_
    exact Steps.refl _)
  obtain ⟨v8, T8, X8, E8, g8⟩ := X5.callS hexec (Cmp3.law l b A o len) hown (wks W (staticW "java/lang/String" 177 Cmp3.yN)) (wk W Cmp3.tab) (W := 0) (Nat.le_of_ble_eq_true rfl) (Nat.le_of_ble_eq_true rfl) (Nat.le_refl _) (by show 0 + len ≤ len; omega) (g := (mkF m 36 #[.val (.ref a), .val (.ref b), .val (.int (Int32.ofNat o)), .val (.int (Int32.ofNat len)), .val .null, .unset] [.int (Int32.ofNat len), .int (Int32.ofNat o), .ref b])) rfl (by rw [hml]; rfl) c7 (argsL := [.ref b, .int (Int32.ofNat o), .int (Int32.ofNat len)]) (rest := []) rfl rfl (by show 2 * 0 + 0 ≤ _; decide) (hb hbytes d36) (⟨rfl, hA.mv X5.warmed.alike hh5, l1, l2, hp⟩)
  obtain ⟨e8, z8⟩ := E8
  obtain ⟨rfl, N, n1, n2, n3, n4, n5, n6⟩ := NewArr.mv _ T5 s _ _ hh5.symm (Vm.Alike.refl _) rfl e8
  rw [hh5] at z8
  have hB1 := hB.keep X8.warmed.alike (n6 _ _ hB.1)
  have hne : s.heap.size ≠ a := (Nat.ne_of_lt (Array.getElem?_eq_some_iff.mp hB.1).1).symm
  have c9 : Steps p.tables e below (s₁.setTop (entryFrame m #[.ref a, .ref b, .int (Int32.ofNat o), .int (Int32.ofNat len), .null] 6)) (T8.setTop (mkF m 39 #[.val (.ref a), .val (.ref b), .val (.int (Int32.ofNat o)), .val (.int (Int32.ofNat len)), .val .null, .unset] [.ref s.heap.size])) := g8
  have c10 : Steps p.tables e below (s₁.setTop (entryFrame m #[.ref a, .ref b, .int (Int32.ofNat o), .int (Int32.ofNat len), .null] 6)) (T8.setTop (mkF m 45 #[.val (.ref a), .val (.ref b), .val (.int (Int32.ofNat o)), .val (.int (Int32.ofNat len)), .val .null, .val (.ref s.heap.size)] [.int (Int32.ofNat N.slots.size), .ref s.heap.size, .ref a])) := by
    have hc : Steps p.tables e below (s₁.setTop (entryFrame m #[.ref a, .ref b, .int (Int32.ofNat o), .int (Int32.ofNat len), .null] 6)) (T8.setTop (mkF m 45 #[.val (.ref a), .val (.ref b), .val (.int (Int32.ofNat o)), .val (.int (Int32.ofNat len)), .val .null, .val (.ref s.heap.size)] [.int (Int32.ofNat len), .ref s.heap.size, .ref a])) := c9.trans (by
      refine XS.astore X8.here hexec rfl (hb hbytes d39) rfl rfl rfl ?_
      refine XS.aloadN X8.here hexec rfl (hb hbytes d41) rfl rfl ?_
      refine XS.aload X8.here hexec rfl (hb hbytes d42) rfl rfl ?_
      refine XS.iloadN X8.here hexec rfl (hb hbytes d44) rfl ?_
      exact Steps.refl _)
    rw [n4]; exact hc
  obtain ⟨v11, T11, X11, E11, g11⟩ := X8.callS hexec (CodL.law l s.heap.size N) hown (wks W (staticW "java/lang/String" 47 CodL.yN)) (wk W CodL.tab) (W := 1) (Nat.le_of_ble_eq_true rfl) (Nat.le_of_ble_eq_true rfl) (Nat.le_refl _) (by show 0 + len + 0 ≤ len; omega) (g := (mkF m 45 #[.val (.ref a), .val (.ref b), .val (.int (Int32.ofNat o)), .val (.int (Int32.ofNat len)), .val .null, .val (.ref s.heap.size)] [.int (Int32.ofNat N.slots.size), .ref s.heap.size, .ref a])) rfl (by rw [hml]; rfl) c10 (argsL := [.ref s.heap.size, .int (Int32.ofNat N.slots.size)]) (rest := [.ref a]) rfl rfl (by show 2 * 0 + (1 + 0) ≤ _; decide) (hb hbytes d45) (⟨rfl, n1⟩)
  obtain ⟨rfl, q11⟩ := E11
  have hB11 := hB1.mv (X8.warmed.alike.symm.trans X11.warmed.alike) q11
  have c12 : Steps p.tables e below (s₁.setTop (entryFrame m #[.ref a, .ref b, .int (Int32.ofNat o), .int (Int32.ofNat len), .null] 6)) (T11.setTop (mkF m 48 #[.val (.ref a), .val (.ref b), .val (.int (Int32.ofNat o)), .val (.int (Int32.ofNat len)), .val .null, .val (.ref s.heap.size)] [.int 0, .ref a])) := g11
  obtain ⟨T13, X13, p13, bl13, sl13, st13⟩ := X11.finit hexec hown (wk W (.fieldLink "java/lang/String" 15 "java/lang/String" "coder" "B")) (Or.inr ⟨_, (wk W (.laysFinal "java/lang/String" "java/lang/String" "coder" "B"))⟩) (Or.inl ⟨rfl, hnm⟩) f2 (Or.inl rfl) hB11 (t := .byte) (by decide +kernel) rfl (g := (mkF m 48 #[.val (.ref a), .val (.ref b), .val (.int (Int32.ofNat o)), .val (.int (Int32.ofNat len)), .val .null, .val (.ref s.heap.size)] [.int 0, .ref a])) rfl (rest := []) rfl (hb hbytes d48)
  have c14 : Steps p.tables e below (s₁.setTop (entryFrame m #[.ref a, .ref b, .int (Int32.ofNat o), .int (Int32.ofNat len), .null] 6)) (T13.setTop (mkF m 54 #[.val (.ref a), .val (.ref b), .val (.int (Int32.ofNat o)), .val (.int (Int32.ofNat len)), .val .null, .val (.ref s.heap.size)] [.ref s.heap.size, .ref a])) := (c12.trans (st13 _ (Steps.refl _))).trans (by
    refine XS.aloadN X13.here hexec rfl (hb hbytes d51) rfl rfl ?_
    refine XS.aload X13.here hexec rfl (hb hbytes d52) rfl rfl ?_
    exact Steps.refl _)
  obtain ⟨T15, X15, p15, bl15, sl15, st15⟩ := X13.finit hexec hown (wk W (.fieldLink "java/lang/String" 9 "java/lang/String" "value" "[B")) (Or.inr ⟨_, (wk W (.laysFinal "java/lang/String" "java/lang/String" "value" "[B"))⟩) (Or.inl ⟨rfl, hnm⟩) f1 (Or.inl rfl) bl13 (t := (.array .byte)) (by decide +kernel) rfl (g := (mkF m 54 #[.val (.ref a), .val (.ref b), .val (.int (Int32.ofNat o)), .val (.int (Int32.ofNat len)), .val .null, .val (.ref s.heap.size)] [.ref s.heap.size, .ref a])) rfl (rest := []) rfl (hb hbytes d54)
  have c16 : Steps p.tables e below (s₁.setTop (entryFrame m #[.ref a, .ref b, .int (Int32.ofNat o), .int (Int32.ofNat len), .null] 6)) (T15.setTop (mkF m 57 #[.val (.ref a), .val (.ref b), .val (.int (Int32.ofNat o)), .val (.int (Int32.ofNat len)), .val .null, .val (.ref s.heap.size)] [])) := c14.trans (st15 _ (Steps.refl _))
  have ap := apart (Or.inr ⟨_, (wk W (.laysFinal "java/lang/String" "java/lang/String" "value" "[B"))⟩) (Or.inr ⟨_, (wk W (.laysFinal "java/lang/String" "java/lang/String" "coder" "B"))⟩) f1 f2 (t₁ := .array .byte) (t₂ := .byte) (by decide +kernel) (by decide +kernel) (by decide)
  have al := X8.warmed.alike.symm.trans X15.warmed.alike
  have n7 : T11.heap[s.heap.size]? = some N := by rw [q11]; exact n1.1
  exact ⟨T15, none, _, _, _, X15, by simp, rfl, by omega, (fun _ => rfl), ⟨rfl, _, N, bl15, ((Same.refl D _).set _ (by simp)).set _ (by simp), sl15, (Cell.slots_setSlot_ne _ ap).trans sl13, n1.keep al (p15.other hne (p13.other hne n7)), n2, by rw [al.findClass]; exact n3, n4, n5, fun y c h1 h2 => p15.other h1 (p13.other h1 (by rw [q11]; exact n6 y c h2)), by rw [p15.2.2, p13.2.2, q11]; exact z8⟩, fun fs hl => c16.trans (X15.returnOut hexec hret (hb hbytes d57) hl)⟩
end New4
namespace New1
def yN : MethodName := ⟨"java/lang/String", "<init>", "([C)V"⟩
abbrev yB : ByteArray := jdk_42_method_3_code
theorem d0 : decode yB 0 = .ok (.aload_n 0, 1) := by decide +kernel
theorem d1 : decode yB 1 = .ok (.aload_n 1, 1) := by decide +kernel
theorem d2 : decode yB 2 = .ok (.iconst 0, 1) := by decide +kernel
theorem d3 : decode yB 3 = .ok (.aload_n 1, 1) := by decide +kernel
theorem d4 : decode yB 4 = .ok (.arraylength, 1) := by decide +kernel
theorem d5 : decode yB 5 = .ok (.aconst_null, 1) := by decide +kernel
theorem d6 : decode yB 6 = .ok (.invokespecial 27, 3) := by decide +kernel
theorem d9 : decode yB 9 = .ok (.return_, 1) := by decide +kernel
def site : List Cond := [New4.tab] ++ initW "java/lang/String" 27 New4.yN
def tab : Cond := tabOf yN yB 2 none site
def P (a : Addr) (D : Cell) (fV fC : Field) (b : Addr) (A : Cell) (z : Int32) (args : Array Value) (s : State) : Prop := args = #[.ref a, .ref b] ∧ Blank "java/lang/String" a D s ∧ Found "java/lang/String" "value" "[B" fV s ∧ Found "java/lang/String" "coder" "B" fC s ∧ Ch b A s ∧ StaticIs s "java/lang/String" "COMPACT_STRINGS" "Z" (.int z) ∧ ¬ z = 0 ∧ 0 < A.slots.size ∧ A.slots.size ≤ 536870912 ∧ ∀ i, i < A.slots.size → ¬ 255 < cv A i
def E (a : Addr) (D : Cell) (fV fC : Field) (A : Cell) (r : Option Value) (s u : State) : Prop := Got a D fV fC A 0 A.slots.size r s u
/-- new String(chars), not empty, no char above 255: a Latin-1 String of their low bytes -/
theorem law (l : Launch) (a : Addr) (D : Cell) (fV fC : Field) (b : Addr) (A : Cell) (z : Int32) : Law l yN 2 1 3 52 yB 2 none site (P a D fV fC b A z) (E a D fV fC A) [⟨a, fC.slot⟩, ⟨a, fV.slot⟩] 1 A.slots.size := by
  refine Law.of_walk (plainFor_of_name (by decide +kernel)) (by decide +kernel) (by decide +kernel) (by decide) (fun _ _ h => by rw [h.1]; rfl) (fun _ U U' hal hh h => ⟨h.1, h.2.1.mv hal hh, h.2.2.1.al hal, h.2.2.2.1.al hal, h.2.2.2.2.1.mv hal hh, h.2.2.2.2.2.1.there hal hh, h.2.2.2.2.2.2⟩) (fun r U U' V V' h1 hal h2 h => Got.mv r U U' V V' h1 hal h2 h) ?_
  intro p e s m args below meth c s₁ X0 hexec hbytes hml hret hlk hnm hown hh0 W hP
  obtain ⟨rfl, hB, f1, f2, hA, s1, hz, l0, l2, hp⟩ := hP
  have c1 : Steps p.tables e below (s₁.setTop (entryFrame m #[.ref a, .ref b] 2)) (s₁.setTop (mkF m 0 #[.val (.ref a), .val (.ref b)] [])) := entry rfl
  have c2 : Steps p.tables e below (s₁.setTop (entryFrame m #[.ref a, .ref b] 2)) (s₁.setTop (mkF m 6 #[.val (.ref a), .val (.ref b)] [.null, .int (Int32.ofNat A.slots.size), .int 0, .ref b, .ref a])) := c1.trans (by
    refine XS.aloadN X0.here hexec rfl (hb hbytes d0) rfl rfl ?_
    refine XS.aloadN X0.here hexec rfl (hb hbytes d1) rfl rfl ?_
    refine iconstV X0.here hexec rfl 0 (hb hbytes d2) (by decide) ?_
    refine XS.aloadN X0.here hexec rfl (hb hbytes d3) rfl rfl ?_
    refine X0.alen hexec (hA.1.mv X0.warmed.alike hh0) rfl rfl (hb hbytes d4) ?_
    refine XS.aconstNull X0.here hexec rfl (hb hbytes d5) ?_
    exact Steps.refl _)
  obtain ⟨v3, T3, X3, E3, g3⟩ := X0.callN hexec (New4.law l a D fV fC b A z 0 A.slots.size) rfl hown (wks W (initW "java/lang/String" 27 New4.yN)) (W New4.tab (by simp only [site, List.mem_cons, List.mem_append, true_or, or_true])) (W := 0) (Nat.le_of_ble_eq_true rfl) (Nat.le_of_ble_eq_true rfl) (Nat.le_refl _) (by show 0 + A.slots.size ≤ A.slots.size; omega) (g := (mkF m 6 #[.val (.ref a), .val (.ref b)] [.null, .int (Int32.ofNat A.slots.size), .int (Int32.ofNat 0), .ref b, .ref a])) rfl (by rw [hml]; rfl) c2 (argsL := [.ref b, .int (Int32.ofNat 0), .int (Int32.ofNat A.slots.size), .null]) (rest := []) rfl rfl (by show 2 * 0 + 0 ≤ _; decide) (hb hbytes d6) (⟨rfl, hB.mv X0.warmed.alike hh0, f1.al X0.warmed.alike, f2.al X0.warmed.alike, hA.mv X0.warmed.alike hh0, s1.there X0.warmed.alike hh0, hz, l0, by omega, l2, fun i hi => by rw [Nat.zero_add]; exact hp i hi⟩)
  have e0 := Got.mv _ s₁ s _ _ hh0.symm (Vm.Alike.refl _) rfl E3
  obtain rfl := e0.1
  have c4 : Steps p.tables e below (s₁.setTop (entryFrame m #[.ref a, .ref b] 2)) (T3.setTop (mkF m 9 #[.val (.ref a), .val (.ref b)] [])) := g3
  exact ⟨T3, none, _, _, _, X3, by simp, rfl, by omega, (fun _ => rfl), e0, fun fs hl => c4.trans (X3.returnOut hexec hret (hb hbytes d9) hl)⟩
theorem pays {l : Launch} {R : Room} {p : Program} {e : Env} {below : List Frame} {s : State} {sargs : Array Value} {len W : Nat} (a : Addr) (D : Cell) (fV fC : Field) (b : Addr) (A : Cell) (z : Int32) (htab : tab.before sargs s = true) (hfr : 4 ≤ R.frames) (hlo : W + 65 ≤ R.locals) :
    Back l R p e below s sargs yN len W (fun A₁ a₁ => A₁.cells + 1 ≤ R.cells ∧ A₁.slots + A.slots.size ≤ R.slots ∧ P a D fV fC b A z a₁ A₁.U) (fun A₁ _ v₁ B₁ => E a D fV fC A v₁ A₁.U B₁.U ∧ B₁.locs = A₁.locs ++ [⟨a, fC.slot⟩, ⟨a, fV.slot⟩] ∧ B₁.cells = A₁.cells + 1 ∧ B₁.slots = A₁.slots + A.slots.size) :=
  (law l a D fV fC b A z).pays htab hfr (by omega)
end New1
/-- the byte, read back as charAt reads it, is the char -/
theorem lo8_mask {x : Int32} (h0 : ¬ x < 0) (h1 : ¬ 255 < x) : lo8 x &&& 255 = x := by
  have t : ∀ k : Fin 256, lo8 (Int32.ofNat k.val) &&& 255 = Int32.ofNat k.val := by decide +kernel
  rw [Int32.lt_iff_toInt_lt] at h0 h1
  have e0 : (0 : Int32).toInt = 0 := rfl
  have e1 : (255 : Int32).toInt = 255 := rfl
  obtain ⟨k, hk⟩ : ∃ k : Nat, x.toInt = k := ⟨x.toInt.toNat, by omega⟩
  have hx : x = Int32.ofNat k := Int32.toInt_inj.mp (by rw [hk, Int32.toInt_ofNat_small (by omega)])
  rw [hx]
  exact t ⟨k, by omega⟩
end StrChars
namespace StrChars.Road
open Jvm Sem ClassFile Op Lib Jvm.Stand Jvm.Free Jvm.Free.XT
open Jvm.Lib.Cold (StaticIs)
abbrev ST : String := "java/lang/String"
/-- every table word that New1's law asks, flat -/
abbrev words : List Jvm.Cond := [.code New1.yN New1.yB 2 none, .initialized ST, .methodLink ST 27 New4.yN, .instanceMethod New4.yN,
  .code New4.yN New4.yB 6 none, .fieldLink ST 38 ST "COMPACT_STRINGS" "Z", .laysFinal ST ST "value" "[B", .fieldLink ST 9 ST "value" "[B", .laysFinal ST ST "coder" "B", .fieldLink ST 15 ST "coder" "B",
  .methodLink ST 1 Lib.objectInit, .instanceMethod Lib.objectInit, .code Lib.objectInit ⟨#[0xb1]⟩ 1 none, .methodLink ST 177 Cmp3.yN, .static Cmp3.yN, .methodLink ST 47 CodL.yN, .static CodL.yN,
  .code Cmp3.yN Cmp3.yB 6 (some (.array .byte)), .initialized U16, .arrayClass .byte, .methodLink U16 115 Cmp5.yN, .static Cmp5.yN, .code Cmp5.yN Cmp5.yB 7 (some .int), .code CodL.yN CodL.yB 2 (some .byte)]
theorem tab_of {a : Array Value} {s : State} (h : ∀ w ∈ words, w.before a s = true) : New1.tab.before a s = true := by
  have h5 : Cmp5.tab.before a s = true := unparts (wk h (.code Cmp5.yN Cmp5.yB 7 (some .int))) (wks h (.initialized Cmp5.yN.cls :: Cmp5.site))
  have hc : CodL.tab.before a s = true := unparts (wk h (.code CodL.yN CodL.yB 2 (some .byte))) (wks h (.initialized CodL.yN.cls :: CodL.site))
  have q5 : ∀ w ∈ Cmp5.tab :: words, w.before a s = true := fun w hw => (List.mem_cons.mp hw).elim (fun e => e ▸ h5) (h w)
  have h3 : Cmp3.tab.before a s = true := unparts (wk q5 (.code Cmp3.yN Cmp3.yB 6 (some (.array .byte)))) (wks q5 (.initialized Cmp3.yN.cls :: Cmp3.site))
  have q3 : ∀ w ∈ Cmp3.tab :: CodL.tab :: words, w.before a s = true := fun w hw => (List.mem_cons.mp hw).elim (fun e => e ▸ h3) fun hw => (List.mem_cons.mp hw).elim (fun e => e ▸ hc) (h w)
  have h4 : New4.tab.before a s = true := unparts (wk q3 (.code New4.yN New4.yB 6 none)) (wks q3 (.initialized New4.yN.cls :: New4.site))
  have q4 : ∀ w ∈ New4.tab :: words, w.before a s = true := fun w hw => (List.mem_cons.mp hw).elim (fun e => e ▸ h4) (h w)
  exact unparts (wk q4 (.code New1.yN New1.yB 2 none)) (wks q4 (.initialized New1.yN.cls :: New1.site))
/-- the words ride from the start Z to the walk's own state -/
theorem moved {Z s : State} {a0 args : Array Value} (hZ : Z.Warmed39 s.vm) (hw : ∀ d ∈ words, d.before a0 Z = true) : ∀ d ∈ words, d.before args s = true := fun d hd => by
  have q := hw d hd
  have t : ∀ d ∈ words, d = .arrayClass .byte ∨ (d.onTables && d.keepsFace) = true := by decide +kernel
  rcases t d hd with rfl | t
  · exact RoadKit.mvA hZ q
  · exact RoadKit.mv hZ q t
/-- WHAT COMES BACK, over the tables of the start Z: h the heap at the call, h' behind it -/
def Q (Z : State) (x : Addr) (A : Cell) (h : Heap) (v : Option Value) (h' : Heap) (L : List Loc) : Prop := v = none ∧ (∀ y ∈ L, y.base = x) ∧ RoadKit.Keep h h' [x] ∧ h'.size = h.size + 1 ∧ RoadKit.Exa Z h' x ST ∧ RoadKit.Fld Z h' x ST "value" "[B" (.ref h.size) ∧ RoadKit.Fld Z h' x ST "coder" "B" (.int 0) ∧
  (∃ V : Cell, RoadKit.Arr Z h' h.size V .byte ∧ V.vm = .none ∧ Z.vm.findClass "[B" = some V.cls ∧ V.slots.size = A.slots.size ∧ ∀ j, j < A.slots.size → V.slots[j]? = some (.int (lo8 (cv A j)))) ∧
  ∀ (O n d : String) (w : Value), RoadKit.Fld Z h x O n d w → RoadKit.slotOf Z O n d ≠ RoadKit.slotOf Z ST "value" "[B" → RoadKit.slotOf Z O n d ≠ RoadKit.slotOf Z ST "coder" "B" → RoadKit.Fld Z h' x O n d w
/-- **new String(chars) AT A CALL, IN THE ROAD'S FORM**: for specialBack behind newO: x the fresh String, b the char[] with the cell A -/
theorem back {p : Program} {l : Launch} {e : Env} {R : Room} {s : State} {args : Array Value} {below : List Frame} {len W : Nat} {Z : State} {a0 : Array Value} {h : Heap} (hZ : Z.Warmed39 s.vm) (hw : ∀ d ∈ words, d.before a0 Z = true) {kI : Nat} (wi : (Jvm.Cond.instantiable ST kI).before a0 Z = true)
    {x b : Addr} {A : Cell} {z : Int32} {v0 c0 : Value} (E : RoadKit.Exa Z h x ST) (V : RoadKit.Fld Z h x ST "value" "[B" v0) (C : RoadKit.Fld Z h x ST "coder" "B" c0) (K : RoadKit.Arr Z h b A .char) (hty : Typed .char A) (S : RoadKit.Sta Z h ST "COMPACT_STRINGS" "Z" (.int z)) (hz : ¬ z = 0)
    (l0 : 0 < A.slots.size) (l2 : A.slots.size ≤ 536870912) (hp : ∀ i, i < A.slots.size → ¬ 255 < cv A i) (hfr : 4 ≤ R.frames) (hlo : W + 65 ≤ R.locals) :
    Back l R p e below s args New1.yN len W (fun P a => a = #[.ref x, .ref b] ∧ P.U.heap = h ∧ P.cells + 1 ≤ R.cells ∧ P.slots + A.slots.size ≤ R.slots)
      (fun P _ v B => ∃ L, Q Z x A h v B.U.heap L ∧ B.locs = P.locs ++ L ∧ B.cells = P.cells + 1 ∧ B.slots = P.slots + A.slots.size) := by
  intro m meth c P g ig mk a X hg hsize hdg hW hn hp'
  obtain ⟨rfl, rfl, r1, r2⟩ := hp'
  have al : Z.vm.Alike P.U.vm := hZ.alike.trans X.warmed.alike
  obtain ⟨D, cfV, kV, iV, fV, hD, gV, stV, knV, obV, asV, slV⟩ := id V
  obtain ⟨D', cfC, kC, iC, fC, hD', gC, stC, -, -, asC, slC⟩ := id C
  cases hD.symm.trans hD'
  obtain ⟨D2, kD, e1, e2, e3, e4, e5⟩ := id E
  cases hD.symm.trans e1
  obtain ⟨c2, k2, i1, i2, i3, -⟩ := Cond.instantiable_spec wi
  cases e2.symm.trans i1
  cases e3.symm.trans i2
  obtain ⟨kU, u1, u2⟩ := al.2.2 _ _ e3
  have hB : Blank ST x D P.U := ⟨hD, ⟨knV, fun q hq => by rw [hq] at obV; cases obV⟩, by rw [al.findClass]; exact e2, kU, u1, by rw [u2]; exact i3, by rw [u2]; exact e5 i3⟩
  have F1 : Found ST "value" "[B" fV P.U := ⟨SBG.found_only al ⟨cfV, kV, iV, gV⟩, stV⟩
  have F2 : Found ST "coder" "B" fC P.U := ⟨SBG.found_only al ⟨cfC, kC, iC, gC⟩, stC⟩
  have hA : Ch b A P.U := ⟨⟨K.1, State.isArrayOf_alike al K.2.1, K.2.2, by omega⟩, hty⟩
  have hS : StaticIs P.U ST "COMPACT_STRINGS" "Z" (.int z) := by
    obtain ⟨cfS, iS, kS, fS, st, cS, t1, t2, t3, t4, t5, t6, t7⟩ := S
    exact StaticIs.there (s := { Z with heap := P.U.heap }) ⟨cfS, iS, kS, fS, st, cS, t1, t2, t3, t4, t5, (fun q => by rw [q] at t6; cases t6), t7⟩ al rfl
  obtain ⟨v, B, X', ⟨⟨hv, E', V', q1, q2, q3, q4, q5, q6, q7, q8, q9, q10, q11⟩, hl, hc, hs⟩, st⟩ := New1.pays x D fV fC b A z (tab_of (moved hZ hw)) hfr hlo m meth c P g ig mk _ X hg hsize hdg hW hn ⟨r1, r2, rfl, hB, F1, F2, hA, hS, hz, l0, l2, hp⟩
  have al' : Z.vm.Alike B.U.vm := hZ.alike.trans X'.warmed.alike
  have hsz : E'.slots.size = D.slots.size := by
    obtain ⟨-, -, -, kB, w1, w2, w3⟩ := q1
    obtain ⟨kB', y1, y2⟩ := al'.2.2 _ _ e3
    rw [q2.2.1] at w1
    cases w1.symm.trans y1
    rw [w3, e5 i3, y2]
  refine ⟨v, B, X', ⟨_, ⟨hv, ?_, ⟨by omega, fun y cy hy hn' => q10 y cy (by simpa using hn') hy, fun y cy hy => ?_⟩, q11, ⟨E', _, q1.1, by rw [q2.2.1]; exact e2, by rw [q2.2.1]; exact e3, by rw [q2.1]; exact obV, fun _ => by rw [hsz]; exact e5 i3⟩,
    ⟨E', cfV, kV, iV, fV, q1.1, gV, stV, by rw [q2.1]; exact knV, by rw [q2.1]; exact obV, by rw [q2.2.1]; exact asV, q3⟩, ⟨E', cfC, kC, iC, fC, q1.1, gC, stC, by rw [q2.1]; exact knV, by rw [q2.1]; exact obV, by rw [q2.2.1]; exact asC, q4⟩,
    ⟨V', ⟨q5.1, State.isArrayOf_alike al'.symm q5.2.1, q5.2.2.1⟩, q6, by rw [← al'.findClass]; exact q7, q8, fun j hj => by have := q9 j hj; rwa [Nat.zero_add] at this⟩, fun O n d w F n1 n2 => ?_⟩, hl, hc, hs⟩, st⟩
  · intro y hy
    simp only [List.mem_cons, List.not_mem_nil, or_false] at hy
    rcases hy with rfl | rfl <;> rfl
  · by_cases q : y = x
    · subst q
      cases hD.symm.trans hy
      exact ⟨E', q1.1, q2.2.1, q2.1, hsz⟩
    · exact ⟨cy, q10 y cy q hy, rfl, rfl, rfl⟩
  · obtain ⟨D3, cf, k, i, f, g1, g2, g3, g4, g5, g6, g7⟩ := F
    cases hD.symm.trans g1
    simp only [RoadKit.slotOf, g2, gV, gC, Option.map_some, Option.getD_some] at n1 n2
    exact ⟨E', cf, k, i, f, q1.1, g2, g3, by rw [q2.1]; exact g4, by rw [q2.1]; exact g5, by rw [q2.2.1]; exact g6, by rw [q2.2.2 f.slot (by simp [n1, n2])]; exact g7⟩
end StrChars.Road
namespace StrChars.Road
open Jvm Sem ClassFile Op Lib Jvm.Stand Jvm.Free Jvm.Free.XT
/-- WHAT COMES BACK, the byte[] as a list of values -/
def QA (Z : State) (x : Addr) (zn : Int32) (cs : List Int32) (h : Heap) (v : Option Value) (h' : Heap) (L : List Loc) : Prop := v = none ∧ (∀ y ∈ L, y.base = x) ∧ RoadKit.Keep h h' [x] ∧ h'.size = h.size + 1 ∧ RoadKit.Exa Z h' x ST ∧ RoadKit.Fld Z h' x ST "value" "[B" (.ref h.size) ∧ RoadKit.Fld Z h' x ST "coder" "B" (.int 0) ∧
  (∃ kb, Z.vm.findClass "[B" = some kb ∧ RoadKit.Arv Z h' h.size kb .byte zn (cs.map fun c => .int (lo8 c)) (.int 0)) ∧
  ∀ (O n d : String) (w : Value), RoadKit.Fld Z h x O n d w → RoadKit.slotOf Z O n d ≠ RoadKit.slotOf Z ST "value" "[B" → RoadKit.slotOf Z O n d ≠ RoadKit.slotOf Z ST "coder" "B" → RoadKit.Fld Z h' x O n d w
/-- **new String(chars) AT A CALL, THE ARRAYS AS LISTS**: the char[] at b holds cs, not empty, no char above 255 -/
theorem backArv {p : Program} {l : Launch} {e : Env} {R : Room} {s : State} {args : Array Value} {below : List Frame} {len W : Nat} {Z : State} {a0 : Array Value} {h : Heap} (hZ : Z.Warmed39 s.vm) (hw : ∀ d ∈ words, d.before a0 Z = true) {kI : Nat} (wi : (Jvm.Cond.instantiable ST kI).before a0 Z = true)
    {x b : Addr} {k : ClassId} {zn z : Int32} {cs : List Int32} {dv v0 c0 : Value} (E : RoadKit.Exa Z h x ST) (V : RoadKit.Fld Z h x ST "value" "[B" v0) (C : RoadKit.Fld Z h x ST "coder" "B" c0) (K : RoadKit.Arv Z h b k .char zn (cs.map Value.int) dv) (S : RoadKit.Sta Z h ST "COMPACT_STRINGS" "Z" (.int z)) (hz : ¬ z = 0)
    (hlen : zn.toNatClampNeg = cs.length) (h0 : 0 < cs.length) (hbig : cs.length ≤ 536870912) (hall : ∀ c ∈ cs, ¬ 255 < c) (hfr : 4 ≤ R.frames) (hlo : W + 65 ≤ R.locals) :
    Back l R p e below s args New1.yN len W (fun P a => a = #[.ref x, .ref b] ∧ P.U.heap = h ∧ P.cells + 1 ≤ R.cells ∧ P.slots + cs.length ≤ R.slots)
      (fun P _ v B => ∃ L, QA Z x zn cs h v B.U.heap L ∧ B.locs = P.locs ++ L ∧ B.cells = P.cells + 1 ∧ B.slots = P.slots + cs.length) := by
  obtain ⟨A, K1, K2, K3, K4, K5, K6⟩ := K
  have e : A.slots.size = cs.length := K3.trans hlen
  have hat : ∀ (i : Nat) (hi : i < cs.length), A.slots[i]? = some (.int cs[i]) := fun i hi => by rw [K5 i (by omega)]; simp [List.getD_eq_getElem?_getD, hi]
  have hcv : ∀ (i : Nat) (hi : i < cs.length), cv A i = cs[i] := fun i hi => by unfold cv; rw [hat i hi]
  have hty : Typed .char A := fun i v hv => by
    have hi : i < A.slots.size := (Array.getElem?_eq_some_iff.mp hv).1
    have q := K5 i hi
    rw [hv] at q
    rw [Option.some.inj q]
    exact K6 i hi
  refine Back.mono (back hZ hw wi E V C K1 hty S hz (by omega) (by omega) (fun i hi => by rw [hcv i (by omega)]; exact hall _ (List.getElem_mem _)) hfr hlo) (fun P a hp => ⟨hp.1, hp.2.1, hp.2.2.1, by rw [e]; exact hp.2.2.2⟩) (fun P a v B hp hq => ?_)
  obtain ⟨L, ⟨q1, q2, q3, q4, q5, q6, q7, ⟨V', v1, v2, v3, v4, v5⟩, q9⟩, hl, hc, hs⟩ := hq
  refine ⟨L, ⟨q1, q2, q3, q4, q5, q6, q7, ⟨V'.cls, v3, V', v1, rfl, by rw [v4, e, hlen], K4, fun i hi => ?_, fun i hi => ?_⟩, q9⟩, hl, hc, by rw [hs, e]⟩
  · have hi' : i < cs.length := by omega
    rw [v5 i (by omega), hcv i hi']; simp [List.getD_eq_getElem?_getD, hi']
  · have hi' : i < cs.length := by omega
    simp only [List.getD_eq_getElem?_getD, List.getElem?_map, List.getElem?_eq_getElem hi', Option.map_some, Option.getD_some]
    exact fits_lo8 _
end StrChars.Road
namespace StrChars.Road
open Jvm Sem ClassFile Op Lib Jvm.Stand Jvm.Free Jvm.Free.XT
/-- WHAT COMES BACK, in the writer's own shape -/
def QV (Z : State) (x : Addr) (N : Int32) (bs : List Int32) (h : Heap) (n0 : Nat) (v : Option Value) (h' : Heap) (L : List Loc) : Prop := v = none ∧ RoadKit.Fr n0 L ∧ RoadKit.Keep h h' [x] ∧ RoadKit.Exa Z h' x ST ∧ RoadKit.Fld Z h' x ST "coder" "B" (.int 0) ∧
  ∃ (t : Addr) (kb : ClassId), n0 ≤ t ∧ h.size ≤ t ∧ ¬ t = x ∧ RoadKit.Fld Z h' x ST "value" "[B" (.ref t) ∧ RoadKit.Arv Z h' t kb .byte N (bs.map Value.int) (.int 0)
/-- **new String(chars) AT A CALL, FOR THE WRITER**: a char[] of n known ints, each 0 to 255 -/
theorem backV {p : Program} {l : Launch} {e : Env} {R : Room} {s : State} {args : Array Value} {below : List Frame} {len W : Nat} {Z : State} {a0 : Array Value} {h : Heap} (hZ : Z.Warmed39 s.vm) (hw : ∀ d ∈ words, d.before a0 Z = true) {kI : Nat} (wi : (Jvm.Cond.instantiable ST kI).before a0 Z = true)
    {x b : Addr} {kC : ClassId} {cs bs : List Int32} {d v0 c0 : Value} {z N : Int32} {n n0 : Nat} (hx0 : n0 ≤ x) (hh0 : n0 ≤ h.size) (E : RoadKit.Exa Z h x ST) (V : RoadKit.Fld Z h x ST "value" "[B" v0) (C : RoadKit.Fld Z h x ST "coder" "B" c0) (K : RoadKit.Arv Z h b kC .char N (cs.map Value.int) d) (S : RoadKit.Sta Z h ST "COMPACT_STRINGS" "Z" (.int z)) (hz : ¬ z = 0)
    (hn : cs.length = n) (hN : N = Int32.ofNat n) (l0 : 0 < n) (l2 : n ≤ 4000) (hp : ∀ c ∈ cs, ¬ c < 0 ∧ ¬ (255 : Int32) < c) (hb : bs = cs.map (fun c => c.toInt8.toInt32)) (hfr : 4 ≤ R.frames) (hlo : W + 65 ≤ R.locals) :
    Back l R p e below s args (⟨"java/lang/String", "<init>", "([C)V"⟩ : MethodName) len W (fun P a => a = #[.ref x, .ref b] ∧ P.U.heap = h ∧ P.cells + 1 ≤ R.cells ∧ P.slots + n ≤ R.slots)
      (fun P _ v B => ∃ L, QV Z x N bs h n0 v B.U.heap L ∧ B.locs = P.locs ++ L ∧ B.cells = P.cells + 1 ∧ B.slots = P.slots + n) := by
  subst hn hN hb
  refine Back.mono (backArv hZ hw wi E V C K S hz (n32 (by omega)) l0 (by omega) (fun c hc => (hp c hc).2) hfr hlo) (fun P a hp => hp) (fun P a v B hp hq => ?_)
  obtain ⟨L, ⟨q1, q2, q3, q4, q5, q6, q7, ⟨kb, v1, v2⟩, q9⟩, hl, hc, hs⟩ := hq
  exact ⟨L, ⟨q1, fun y hy => by rw [q2 y hy]; exact hx0, q3, q5, q7, h.size, kb, hh0, Nat.le_refl _, Nat.ne_of_gt E.lt, q6, by rw [List.map_map]; exact v2⟩, hl, hc, hs⟩
end StrChars.Road
namespace StrChars
open Jvm Sem ClassFile Op Lib Jvm.Stand Jvm.Free.XT Jvm.Free.ALB Jvm.Free.JM Jvm.Free
open Jvm.Lib.Cold (StaticIs)
def hi8 (x : Int32) : Int32 := lo8 (x >>> ((8 : Int32) &&& 31))
/-- what StringUTF16.getChar makes of two bytes -/
def pairCh (u v : Int32) : Int32 := (((u &&& 255) <<< ((0 : Int32) &&& 31)) ||| ((v &&& 255) <<< ((8 : Int32) &&& 31))).toUInt32.toUInt16.toUInt32.toInt32
theorem lo8_and (x : Int32) : (lo8 x &&& 255).toBitVec.toNat = x.toBitVec.toNat % 256 := by
  have h : (lo8 x).toBitVec = (x.toBitVec.signExtend 8).signExtend 32 := by rw [lo8, Int8.toBitVec_toInt32, Int32.toBitVec_toInt8]
  rw [Int32.toBitVec_and, BitVec.toNat_and, h]
  have e : ((x.toBitVec.signExtend 8).signExtend 32).toNat % 256 = x.toBitVec.toNat % 256 := by
    rw [BitVec.toNat_signExtend]
    have hlt := x.toBitVec.isLt
    simp only [BitVec.toNat_setWidth, BitVec.toNat_signExtend]
    split <;> split <;> omega
  rw [← e]
  exact Nat.and_two_pow_sub_one_eq_mod _ 8
theorem pair_says {c : Int32} (h0 : ¬ c < 0) (h1 : ¬ 65535 < c) : pairCh (lo8 c) (hi8 c) = c := by
  rw [Int32.lt_iff_toInt_lt] at h0 h1
  have e0 : (0 : Int32).toInt = 0 := rfl
  have e1 : (65535 : Int32).toInt = 65535 := rfl
  have hc : c.toInt = c.toBitVec.toNat := by
    have := c.toBitVec.isLt
    have e : c.toInt = c.toBitVec.toInt := rfl
    rw [e] at h0 h1
    rw [e]
    rw [BitVec.toInt_eq_toNat_cond] at h0 h1 ⊢
    split at h0 <;> split <;> omega
  have hn : c.toBitVec.toNat < 65536 := by omega
  have a1 := lo8_and c
  have a2 : (hi8 c &&& 255).toBitVec.toNat = c.toBitVec.toNat / 256 := by
    rw [hi8, lo8_and]
    have e : ((8 : Int32) &&& 31) = 8 := by decide
    rw [e, Int32.toBitVec_shiftRight]
    have e2 : ((8 : Int32).toBitVec.smod 32) = 8#32 := by decide
    rw [e2, BitVec.sshiftRight_eq', BitVec.toNat_sshiftRight_of_msb_false (by rw [BitVec.msb_eq_false_iff_two_mul_lt]; omega)]
    show c.toBitVec.toNat >>> 8 % 256 = _
    rw [Nat.shiftRight_eq_div_pow]
    omega
  unfold pairCh
  apply Int32.toBitVec_inj.mp
  apply BitVec.eq_of_toNat_eq
  have f0 : ((0 : Int32) &&& 31) = 0 := by decide
  have f8 : ((8 : Int32) &&& 31) = 8 := by decide
  rw [f0, f8]
  have g : (((lo8 c &&& 255) <<< (0 : Int32)) ||| ((hi8 c &&& 255) <<< (8 : Int32))).toBitVec.toNat = c.toBitVec.toNat := by
    rw [Int32.toBitVec_or, Int32.toBitVec_shiftLeft, Int32.toBitVec_shiftLeft]
    have s0 : ((0 : Int32).toBitVec.smod 32) = 0#32 := by decide
    have s8 : ((8 : Int32).toBitVec.smod 32) = 8#32 := by decide
    rw [s0, s8, BitVec.toNat_or]
    simp only [BitVec.shiftLeft_eq', BitVec.toNat_shiftLeft, a1, a2]
    show (c.toBitVec.toNat % 256) <<< 0 % 2 ^ 32 ||| (c.toBitVec.toNat / 256) <<< 8 % 2 ^ 32 = _
    rw [Nat.shiftLeft_zero, Nat.mod_eq_of_lt (show c.toBitVec.toNat % 256 < 2 ^ 32 by omega), Nat.mod_eq_of_lt (show (c.toBitVec.toNat / 256) <<< 8 < 2 ^ 32 by rw [Nat.shiftLeft_eq]; omega), Nat.or_comm, ← Nat.shiftLeft_add_eq_or_of_lt (by omega), Nat.shiftLeft_eq]
    omega
  show BitVec.toNat (((((lo8 c &&& 255) <<< (0 : Int32)) ||| ((hi8 c &&& 255) <<< (8 : Int32))).toBitVec.setWidth 16).setWidth 32) = _
  rw [BitVec.toNat_setWidth, BitVec.toNat_setWidth, g]
  omega
end StrChars
namespace StrChars
open Jvm Sem ClassFile Op Lib Jvm.Stand Jvm.Free.XT Jvm.Free.ALB Jvm.Free.JM Jvm.Free
open Jvm.Lib.Cold (StaticIs)
/-- the array's cell V codes the n chars f 0 .. f (n - 1) by the coder cd, as the JDK does: coder 1 just where some char is above 255 -/
def Cod (cd : Int32) (n : Nat) (f : Nat → Int32) (V : Cell) : Prop := (cd = 0 ∧ V.slots.size = n ∧ ∀ j, j < n → V.slots[j]? = some (.int (lo8 (f j))) ∧ ¬ 255 < f j) ∨ (cd = 1 ∧ V.slots.size = 2 * n ∧ (∀ j, j < n → V.slots[2 * j]? = some (.int (lo8 (f j))) ∧ V.slots[2 * j + 1]? = some (.int (hi8 (f j)))) ∧ ∃ j, j < n ∧ 255 < f j)
/-- **x is a String of the n chars f 0 .. f (n - 1)**, Latin-1 or UTF-16; its array at t has the cell V -/
def Txt (x t : Addr) (V : Cell) (cd : Int32) (n : Nat) (f : Nat → Int32) (U : State) : Prop := Exact "java/lang/String" x U ∧ Has x "java/lang/String" "value" "[B" (.ref t) U ∧ Has x "java/lang/String" "coder" "B" (.int cd) U ∧ XT.Arr .byte t V U ∧ Cod cd n f V ∧ ∀ j, j < n → ¬ f j < 0 ∧ ¬ 65535 < f j
theorem Txt.mv {x t : Addr} {V : Cell} {cd : Int32} {n : Nat} {f : Nat → Int32} {U U' : State} (h : Txt x t V cd n f U) (hal : U.vm.Alike U'.vm) (hh : U'.heap = U.heap) : Txt x t V cd n f U' := ⟨h.1.mv hal hh, h.2.1.mv hal hh, h.2.2.1.mv hal hh, h.2.2.2.1.mv hal hh, h.2.2.2.2⟩
end StrChars
namespace StrChars.Road
open Jvm Sem ClassFile Op Lib Jvm.Stand Jvm.Free Jvm.Free.XT
open Jvm.Lib.Cold (StaticIs)
theorem consq {a : Array Value} {s : State} {c : Jvm.Cond} {L : List Jvm.Cond} (h0 : c.before a s = true) (h : ∀ w ∈ L, w.before a s = true) : ∀ w ∈ c :: L, w.before a s = true := fun w hw => (List.mem_cons.mp hw).elim (fun e => e ▸ h0) (h w)
/-- the bytes of the chars cs, low before high -/
def wideBytes : List Int32 → List Value
  | [] => []
  | c :: cs => .int (lo8 c) :: .int (hi8 c) :: wideBytes cs
theorem wide_lo (d : Value) : ∀ (cs : List Int32) (j : Nat), j < cs.length → (wideBytes cs).getD (2 * j) d = .int (lo8 (cs.getD j 0))
  | [], j, h => absurd h (Nat.not_lt_zero j)
  | c :: cs, 0, _ => rfl
  | c :: cs, j + 1, h => by
    have q := wide_lo d cs j (by simpa using h)
    rw [show 2 * (j + 1) = 2 * j + 1 + 1 from by omega]
    simpa [wideBytes] using q
theorem wide_hi (d : Value) : ∀ (cs : List Int32) (j : Nat), j < cs.length → (wideBytes cs).getD (2 * j + 1) d = .int (hi8 (cs.getD j 0))
  | [], j, h => absurd h (Nat.not_lt_zero j)
  | c :: cs, 0, _ => rfl
  | c :: cs, j + 1, h => by
    have q := wide_hi d cs j (by simpa using h)
    rw [show 2 * (j + 1) + 1 = 2 * j + 1 + 1 + 1 from by omega]
    simpa [wideBytes] using q
theorem low_at (d : Value) (cs : List Int32) (j : Nat) (h : j < cs.length) : (cs.map fun c => Value.int (lo8 c)).getD j d = .int (lo8 (cs.getD j 0)) := by
  simp [List.getD_eq_getElem?_getD, h]
/-- an array of N2 bytes vs codes the chars cs by the coder cd -/
def CodA (cs : List Int32) (cd N2 : Int32) (vs : List Value) : Prop := (cd = 0 ∧ N2 = Int32.ofNat cs.length ∧ vs = (cs.map fun c => Value.int (lo8 c)) ∧ ∀ c ∈ cs, ¬ 255 < c) ∨ (cd = 1 ∧ N2 = Int32.ofNat (2 * cs.length) ∧ vs = wideBytes cs ∧ ∃ c ∈ cs, 255 < c)
theorem CodA.cod {cs : List Int32} {cd N2 : Int32} {vs : List Value} {V : Cell} (h : CodA cs cd N2 vs) (hn : 2 * cs.length < 2 ^ 31) (hs : V.slots.size = N2.toNatClampNeg) (hv : RoadKit.Has V vs (.int 0)) : Cod cd cs.length (fun j => cs.getD j 0) V := by
  rcases h with ⟨rfl, rfl, rfl, h⟩ | ⟨rfl, rfl, rfl, c, hc, hw⟩
  · rw [n32 (by omega)] at hs
    exact Or.inl ⟨rfl, hs, fun j hj => ⟨by rw [hv j (by omega), low_at _ _ _ hj], by
      have e : cs.getD j 0 = cs[j] := by simp [List.getD_eq_getElem?_getD, hj]
      show ¬ 255 < cs.getD j 0
      rw [e]; exact h _ (List.getElem_mem _)⟩⟩
  · rw [n32 (by omega)] at hs
    obtain ⟨j, hj, rfl⟩ := List.getElem_of_mem hc
    exact Or.inr ⟨rfl, hs, fun j hj => ⟨by rw [hv _ (by omega), wide_lo _ _ _ hj], by rw [hv _ (by omega), wide_hi _ _ _ hj]⟩, j, hj, by
      have e : cs.getD j 0 = cs[j] := by simp [List.getD_eq_getElem?_getD, hj]
      show 255 < cs.getD j 0
      rw [e]; exact hw⟩
/-- an object of exactly java/lang/String, its two fields found: as the laws ask it -/
theorem strObj {Z U : State} {a0 : Array Value} {kI : Nat} (wi : (Jvm.Cond.instantiable ST kI).before a0 Z = true) (al : Z.vm.Alike U.vm) {x : Addr} {v0 c0 : Value} (E : RoadKit.Exa Z U.heap x ST) (V : RoadKit.Fld Z U.heap x ST "value" "[B" v0) (C : RoadKit.Fld Z U.heap x ST "coder" "B" c0) :
    ∃ (D : Cell) (fV fC : Field), Blank ST x D U ∧ Found ST "value" "[B" fV U ∧ Found ST "coder" "B" fC U ∧ D.slots[fV.slot]? = some v0 ∧ D.slots[fC.slot]? = some c0 ∧ RoadKit.slotOf Z ST "value" "[B" = fV.slot ∧ RoadKit.slotOf Z ST "coder" "B" = fC.slot := by
  obtain ⟨D, cfV, kV, iV, fV, hD, gV, stV, knV, obV, asV, slV⟩ := V
  obtain ⟨D', cfC, kC, iC, fC, hD', gC, stC, -, -, asC, slC⟩ := C
  cases hD.symm.trans hD'
  obtain ⟨D2, kD, e1, e2, e3, e4, e5⟩ := E
  cases hD.symm.trans e1
  obtain ⟨c2, k2, i1, i2, i3, -⟩ := Cond.instantiable_spec wi
  cases e2.symm.trans i1
  cases e3.symm.trans i2
  obtain ⟨kU, u1, u2⟩ := al.2.2 _ _ e3
  exact ⟨D, fV, fC, ⟨hD, ⟨knV, fun q hq => by rw [hq] at obV; cases obV⟩, by rw [al.findClass]; exact e2, kU, u1, by rw [u2]; exact i3, by rw [u2]; exact e5 i3⟩, ⟨SBG.found_only al ⟨cfV, kV, iV, gV⟩, stV⟩, ⟨SBG.found_only al ⟨cfC, kC, iC, gC⟩, stC⟩, slV, slC, by simp [RoadKit.slotOf, gV], by simp [RoadKit.slotOf, gC]⟩
theorem sta_is {Z U : State} (al : Z.vm.Alike U.vm) {C n d : String} {v : Value} (S : RoadKit.Sta Z U.heap C n d v) : StaticIs U C n d v := by
  obtain ⟨cfS, iS, kS, fS, st, cS, t1, t2, t3, t4, t5, t6, t7⟩ := S
  exact StaticIs.there (s := { Z with heap := U.heap }) ⟨cfS, iS, kS, fS, st, cS, t1, t2, t3, t4, t5, (fun q => by rw [q] at t6; cases t6), t7⟩ al rfl
end StrChars.Road
namespace StrChars
open Jvm Sem ClassFile Op Lib Jvm.Stand Jvm.Free.XT Jvm.Free.ALB Jvm.Free.JM Jvm.Free
open Jvm.Lib.Cold (StaticIs)
/-- what place i of a byte[]'s cell holds -/
def yv (A : Cell) (i : Nat) : Int32 := match A.slots[i]? with | some (.int x) => x | _ => 0
theorem yv_get {a : Addr} {A : Cell} {U : State} (h : XT.Arr .byte a A U) (ht : Typed .byte A) {i : Nat} (hi : i < A.slots.size) : A.slots[i]? = some (.int (yv A i)) := by
  have e := Array.getElem?_eq_getElem hi
  have f := ht i _ e
  unfold yv; rw [e]
  generalize A.slots[i] = v at f
  cases v <;> simp [fits] at f ⊢
/-- the two arrays are equal, place for place -/
def EqC (A B : Cell) : Prop := A.slots.size = B.slots.size ∧ ∀ i, i < A.slots.size → yv A i = yv B i
/-- a boolean that says whether p -/
def Says01 (q : Prop) (r : Option Value) (s u : State) : Prop := ∃ v : Int32, r = some (.int v) ∧ u.heap = s.heap ∧ ((v = 1 ∧ q) ∨ (v = 0 ∧ ¬ q))
theorem Says01.mv {q : Prop} : ∀ r (U U' V V' : State), U'.heap = U.heap → V.vm.Alike V'.vm → V'.heap = V.heap → Says01 q r U V → Says01 q r U' V' :=
  fun r U U' V V' h1 _ h2 ⟨v, a, b, c⟩ => ⟨v, a, by rw [h1, h2]; exact b, c⟩
namespace LEq
def yN : MethodName := ⟨"java/lang/StringLatin1", "equals", "([B[B)Z"⟩
abbrev yB : ByteArray := jdk_43_method_13_code
theorem d0 : decode yB 0 = .ok (.aload_n 0, 1) := by decide +kernel
theorem d1 : decode yB 1 = .ok (.arraylength, 1) := by decide +kernel
theorem d2 : decode yB 2 = .ok (.aload_n 1, 1) := by decide +kernel
theorem d3 : decode yB 3 = .ok (.arraylength, 1) := by decide +kernel
theorem d4 : decode yB 4 = .ok (.if_icmp (.ne) 30, 3) := by decide +kernel
theorem d7 : decode yB 7 = .ok (.iconst 0, 1) := by decide +kernel
theorem d8 : decode yB 8 = .ok (.istore_n 2, 1) := by decide +kernel
theorem d9 : decode yB 9 = .ok (.iload_n 2, 1) := by decide +kernel
theorem d10 : decode yB 10 = .ok (.aload_n 0, 1) := by decide +kernel
theorem d11 : decode yB 11 = .ok (.arraylength, 1) := by decide +kernel
theorem d12 : decode yB 12 = .ok (.if_icmp (.ge) 20, 3) := by decide +kernel
theorem d15 : decode yB 15 = .ok (.aload_n 0, 1) := by decide +kernel
theorem d16 : decode yB 16 = .ok (.iload_n 2, 1) := by decide +kernel
theorem d17 : decode yB 17 = .ok (.baload, 1) := by decide +kernel
theorem d18 : decode yB 18 = .ok (.aload_n 1, 1) := by decide +kernel
theorem d19 : decode yB 19 = .ok (.iload_n 2, 1) := by decide +kernel
theorem d20 : decode yB 20 = .ok (.baload, 1) := by decide +kernel
theorem d21 : decode yB 21 = .ok (.if_icmp (.eq) 5, 3) := by decide +kernel
theorem d24 : decode yB 24 = .ok (.iconst 0, 1) := by decide +kernel
theorem d25 : decode yB 25 = .ok (.ireturn, 1) := by decide +kernel
theorem d26 : decode yB 26 = .ok (.iinc 2 1, 3) := by decide +kernel
theorem d29 : decode yB 29 = .ok (.goto (-20), 3) := by decide +kernel
theorem d32 : decode yB 32 = .ok (.iconst 1, 1) := by decide +kernel
theorem d33 : decode yB 33 = .ok (.ireturn, 1) := by decide +kernel
theorem d34 : decode yB 34 = .ok (.iconst 0, 1) := by decide +kernel
theorem d35 : decode yB 35 = .ok (.ireturn, 1) := by decide +kernel
def site : List Cond := []
def tab : Cond := tabOf yN yB 3 (some .boolean) site
def P (a : Addr) (A : Cell) (b : Addr) (B : Cell) (args : Array Value) (s : State) : Prop := args = #[.ref a, .ref b] ∧ XT.Arr .byte a A s ∧ Typed .byte A ∧ XT.Arr .byte b B s ∧ Typed .byte B
/-- whether two byte[] are equal, place for place -/
theorem law (l : Launch) (a : Addr) (A : Cell) (b : Addr) (B : Cell) : Law l yN 2 2 0 0 yB 3 (some .boolean) site (P a A b B) (Says01 (EqC A B)) [] 0 0 := by
  refine Law.of_walk (plainFor_of_name (by decide +kernel)) (by decide +kernel) (by decide +kernel) (by decide) (fun _ _ h => by rw [h.1]; rfl) (fun _ U U' hal hh h => ⟨h.1, h.2.1.mv hal hh, h.2.2.1, h.2.2.2.1.mv hal hh, h.2.2.2.2⟩) (fun r U U' V V' h1 hal h2 h => Says01.mv r U U' V V' h1 hal h2 h) ?_
  intro p e s m args below meth c s₁ X0 hexec hbytes hml hret hlk hnm hown hh0 W hP
  obtain ⟨rfl, hA, tA, hB, tB⟩ := hP
  have a31 := hA.2.2.2
  have b31 := hB.2.2.2
  have hA0 := hA.mv X0.warmed.alike hh0
  have hB0 := hB.mv X0.warmed.alike hh0
  have c1 : Steps p.tables e below (s₁.setTop (entryFrame m #[.ref a, .ref b] 3)) (s₁.setTop (mkF m 0 #[.val (.ref a), .val (.ref b), .unset] [])) := entry rfl
  have c2 : Steps p.tables e below (s₁.setTop (entryFrame m #[.ref a, .ref b] 3)) (s₁.setTop (mkF m 4 #[.val (.ref a), .val (.ref b), .unset] [.int (Int32.ofNat B.slots.size), .int (Int32.ofNat A.slots.size)])) := c1.trans (by
    refine XS.aloadN X0.here hexec rfl (hb hbytes d0) rfl rfl ?_
    refine X0.alen hexec hA0 rfl rfl (hb hbytes d1) ?_
    refine XS.aloadN X0.here hexec rfl (hb hbytes d2) rfl rfl ?_
    refine X0.alen hexec hB0 rfl rfl (hb hbytes d3) ?_
    exact Steps.refl _)
  by_cases hs : A.slots.size = B.slots.size
  · have c3 : Steps p.tables e below (s₁.setTop (entryFrame m #[.ref a, .ref b] 3)) (s₁.setTop (mkF m 9 #[.val (.ref a), .val (.ref b), .val (.int 0)] [])) := c2.trans (by
      refine XS.icmpNo X0.here hexec rfl (hb hbytes d4) rfl (ii_ne_f (by rw [hs])) ?_
      refine iconstV X0.here hexec rfl 0 (hb hbytes d7) (by decide) ?_
      refine XS.istoreN X0.here hexec rfl (hb hbytes d8) rfl rfl ?_
      exact Steps.refl _)
    have loop : ∀ (r i : Nat), i + r = A.slots.size → (∀ j, j < i → yv A j = yv B j) → Steps p.tables e below (s₁.setTop (entryFrame m #[.ref a, .ref b] 3)) (s₁.setTop (mkF m 9 #[.val (.ref a), .val (.ref b), .val (.int (Int32.ofNat i))] [])) → ∃ (pc : Nat) (Ls : Array Slot) (v : Int32), (pc = 25 ∨ pc = 33) ∧ ((v = 1 ∧ EqC A B) ∨ (v = 0 ∧ ¬ EqC A B)) ∧ Steps p.tables e below (s₁.setTop (entryFrame m #[.ref a, .ref b] 3)) (s₁.setTop (mkF m pc Ls [.int v])) := by
      intro r
      induction r with
      | zero =>
        intro i hi he cl
        exact ⟨33, _, 1, Or.inr rfl, Or.inl ⟨rfl, hs, fun j hj => he j (by omega)⟩, cl.trans (by
          refine XS.iloadN X0.here hexec rfl (hb hbytes d9) rfl ?_
          refine XS.aloadN X0.here hexec rfl (hb hbytes d10) rfl rfl ?_
          refine X0.alen hexec hA0 rfl rfl (hb hbytes d11) ?_
          refine XS.icmpYes X0.here hexec rfl (pc0 := 12) rfl (hb hbytes d12) rfl (ii_ge_t (nlt32 (by omega) (by omega))) (by decide) rfl ?_
          refine iconstV X0.here hexec rfl 1 (hb hbytes d32) (by decide) ?_
          exact Steps.refl _)⟩
      | succ r ih =>
        intro i hi he cl
        have c4 : Steps p.tables e below (s₁.setTop (entryFrame m #[.ref a, .ref b] 3)) (s₁.setTop (mkF m 21 #[.val (.ref a), .val (.ref b), .val (.int (Int32.ofNat i))] [.int (yv B i), .int (yv A i)])) := cl.trans (by
          refine XS.iloadN X0.here hexec rfl (hb hbytes d9) rfl ?_
          refine XS.aloadN X0.here hexec rfl (hb hbytes d10) rfl rfl ?_
          refine X0.alen hexec hA0 rfl rfl (hb hbytes d11) ?_
          refine XS.icmpNo X0.here hexec rfl (hb hbytes d12) rfl (ii_ge_f (lt32 (by omega) (by omega))) ?_
          refine XS.aloadN X0.here hexec rfl (hb hbytes d15) rfl rfl ?_
          refine XS.iloadN X0.here hexec rfl (hb hbytes d16) rfl ?_
          refine X0.aget hexec hA0 rfl (yv_get hA tA (i := i) (by omega)) rfl rfl (hb hbytes d17) ?_
          refine XS.aloadN X0.here hexec rfl (hb hbytes d18) rfl rfl ?_
          refine XS.iloadN X0.here hexec rfl (hb hbytes d19) rfl ?_
          refine X0.aget hexec hB0 rfl (yv_get hB tB (i := i) (by omega)) rfl rfl (hb hbytes d20) ?_
          exact Steps.refl _)
        by_cases hv : yv A i = yv B i
        · have c5 : Steps p.tables e below (s₁.setTop (entryFrame m #[.ref a, .ref b] 3)) (s₁.setTop (mkF m 9 #[.val (.ref a), .val (.ref b), .val (.int (Int32.ofNat i + 1))] [])) := c4.trans (by
            refine XS.icmpYes X0.here hexec rfl (pc0 := 21) rfl (hb hbytes d21) rfl (ii_eq_t hv) (by decide) rfl ?_
            refine iincV X0.here hexec rfl 1 (hb hbytes d26) (by decide) rfl rfl ?_
            refine XS.goto X0.here hexec rfl (pc0 := 29) rfl (hb hbytes d29) (by decide) rfl ?_
            exact Steps.refl _)
          rw [succ32] at c5
          exact ih (i + 1) (by omega) (fun j hj => by
            by_cases e : j = i
            · rw [e]; exact hv
            · exact he j (by omega)) c5
        · exact ⟨25, _, 0, Or.inl rfl, Or.inr ⟨rfl, fun q => hv (q.2 i (by omega))⟩, c4.trans (by
            refine XS.icmpNo X0.here hexec rfl (hb hbytes d21) rfl (ii_eq_f hv) ?_
            refine iconstV X0.here hexec rfl 0 (hb hbytes d24) (by decide) ?_
            exact Steps.refl _)⟩
    obtain ⟨pc, Ls, v, hpc, hv, cz⟩ := loop A.slots.size 0 (by omega) (fun j hj => absurd hj (Nat.not_lt_zero j)) c3
    have nv : narrow .boolean (.int v) = .int v := by rcases hv with ⟨rfl, -⟩ | ⟨rfl, -⟩ <;> rfl
    rcases hpc with rfl | rfl
    · exact ⟨s₁, some (.int v), _, _, _, X0, rfl, rfl, rfl, (fun h => by cases h), ⟨v, rfl, hh0, hv⟩, fun fs hl => cz.trans (X0.ireturnOut hexec hret nv (Or.inr (Or.inl rfl)) (hb hbytes d25) hl)⟩
    · exact ⟨s₁, some (.int v), _, _, _, X0, rfl, rfl, rfl, (fun h => by cases h), ⟨v, rfl, hh0, hv⟩, fun fs hl => cz.trans (X0.ireturnOut hexec hret nv (Or.inr (Or.inl rfl)) (hb hbytes d33) hl)⟩
  · have c3 : Steps p.tables e below (s₁.setTop (entryFrame m #[.ref a, .ref b] 3)) (s₁.setTop (mkF m 35 #[.val (.ref a), .val (.ref b), .unset] [.int 0])) := c2.trans (by
      refine XS.icmpYes X0.here hexec rfl (pc0 := 4) rfl (hb hbytes d4) rfl (ii_ne_t (ne32 a31 b31 hs)) (by decide) rfl ?_
      refine iconstV X0.here hexec rfl 0 (hb hbytes d34) (by decide) ?_
      exact Steps.refl _)
    exact ⟨s₁, some (.int 0), _, _, _, X0, rfl, rfl, rfl, (fun h => by cases h), ⟨0, rfl, hh0, Or.inr ⟨rfl, fun q => hs q.1⟩⟩, fun fs hl => c3.trans (X0.ireturnOut hexec hret rfl (Or.inr (Or.inl rfl)) (hb hbytes d35) hl)⟩
end LEq
theorem Cod.ty {cd : Int32} {n : Nat} {f : Nat → Int32} {V : Cell} (h : Cod cd n f V) : Typed .byte V := fun i v hv => by
  have hi : i < V.slots.size := (Array.getElem?_eq_some_iff.mp hv).1
  rcases h with ⟨-, k1, k2⟩ | ⟨-, k1, k2, -⟩
  · rw [(k2 i (by omega)).1] at hv; cases hv; exact fits_lo8 _
  · rcases Nat.mod_two_eq_zero_or_one i with e | e
    · obtain ⟨j, rfl⟩ : ∃ j, i = 2 * j := ⟨i / 2, by omega⟩
      rw [(k2 j (by omega)).1] at hv; cases hv; exact fits_lo8 _
    · obtain ⟨j, rfl⟩ : ∃ j, i = 2 * j + 1 := ⟨i / 2, by omega⟩
      rw [(k2 j (by omega)).2] at hv; cases hv; exact fits_lo8 _
/-- the same text -/
def SameT (n : Nat) (f : Nat → Int32) (k : Nat) (g : Nat → Int32) : Prop := n = k ∧ ∀ j, j < n → f j = g j
theorem lo8_inj {x y : Int32} (h0 : ¬ x < 0) (h1 : ¬ 255 < x) (k0 : ¬ y < 0) (k1 : ¬ 255 < y) (h : lo8 x = lo8 y) : x = y := by
  rw [← lo8_mask h0 h1, ← lo8_mask k0 k1, h]
/-- arrays coded by one coder are equal just where the texts are -/
theorem Cod.eqv {cd : Int32} {n k : Nat} {f g : Nat → Int32} {V V' : Cell} (h : Cod cd n f V) (h' : Cod cd k g V') (hf : ∀ j, j < n → ¬ f j < 0 ∧ ¬ 65535 < f j) (hg : ∀ j, j < k → ¬ g j < 0 ∧ ¬ 65535 < g j) : EqC V V' ↔ SameT n f k g := by
  have yvv : ∀ {W : Cell} {i : Nat} {x : Int32}, W.slots[i]? = some (.int x) → yv W i = x := fun q => by unfold yv; rw [q]
  rcases h with ⟨rfl, k1, k2⟩ | ⟨rfl, k1, k2, -⟩
  · rcases h' with ⟨-, m1, m2⟩ | ⟨e, -⟩
    · constructor
      · rintro ⟨e1, e2⟩
        refine ⟨by omega, fun j hj => ?_⟩
        have q := e2 j (by omega)
        rw [yvv (k2 j hj).1, yvv (m2 j (by omega)).1] at q
        exact lo8_inj (hf j hj).1 (k2 j hj).2 (hg j (by omega)).1 (m2 j (by omega)).2 q
      · rintro ⟨rfl, e2⟩
        refine ⟨by omega, fun j hj => ?_⟩
        rw [yvv (k2 j (by omega)).1, yvv (m2 j (by omega)).1, e2 j (by omega)]
    · exact absurd e (by decide)
  · rcases h' with ⟨e, -⟩ | ⟨-, m1, m2, -⟩
    · exact absurd e (by decide)
    · constructor
      · rintro ⟨e1, e2⟩
        refine ⟨by omega, fun j hj => ?_⟩
        have q1 := e2 (2 * j) (by omega)
        have q2 := e2 (2 * j + 1) (by omega)
        rw [yvv (k2 j hj).1, yvv (m2 j (by omega)).1] at q1
        rw [yvv (k2 j hj).2, yvv (m2 j (by omega)).2] at q2
        rw [← pair_says (hf j hj).1 (hf j hj).2, ← pair_says (hg j (by omega)).1 (hg j (by omega)).2, q1, q2]
      · rintro ⟨rfl, e2⟩
        refine ⟨by omega, fun i hi => ?_⟩
        rcases Nat.mod_two_eq_zero_or_one i with e | e
        · obtain ⟨j, rfl⟩ : ∃ j, i = 2 * j := ⟨i / 2, by omega⟩
          rw [yvv (k2 j (by omega)).1, yvv (m2 j (by omega)).1, e2 j (by omega)]
        · obtain ⟨j, rfl⟩ : ∃ j, i = 2 * j + 1 := ⟨i / 2, by omega⟩
          rw [yvv (k2 j (by omega)).2, yvv (m2 j (by omega)).2, e2 j (by omega)]
/-- two codings differ: so do the texts -/
theorem Cod.dif {cd cd' : Int32} {n k : Nat} {f g : Nat → Int32} {V V' : Cell} (h : Cod cd n f V) (h' : Cod cd' k g V') (hne : ¬ cd = cd') : ¬ SameT n f k g := by
  rintro ⟨rfl, e⟩
  rcases h with ⟨rfl, -, k2⟩ | ⟨rfl, -, -, j, hj, hw⟩
  · rcases h' with ⟨rfl, -⟩ | ⟨-, -, -, j, hj, hw⟩
    · exact hne rfl
    · exact (k2 j hj).2 (by rw [e j hj]; exact hw)
  · rcases h' with ⟨-, -, m2⟩ | ⟨rfl, -⟩
    · exact (m2 j hj).2 (by rw [← e j hj]; exact hw)
    · exact hne rfl
/-- an object of exactly C is an instance of C -/
theorem cinst {p : Program} {l : Launch} {e : Env} {R : Room} {s : State} {m : MethodId} {args : Array Value} {below : List Frame} {meth : Method} {c : Code} {T : State} {locs : List Loc} {cells slots : Nat} (X : Stand p l e R s m args below meth c T locs cells slots) (hexec : p.tables.exec = Jvm.exec) {own C : String} {index : Nat} (hown : s.vm.findClass own = some m.cls) (hlink : (Cond.classLink own index C).before args s = true) {a : Addr} (hE : Exact C a T)
    {g : JFrame} (hg : g.method = m) {rest : List Value} (hstack : g.stack = .ref a :: rest) (hdg : decode c.code g.pc = .ok (.instanceof index, 3)) :
    ∃ T', Stand p l e R s m args below meth c T' locs cells slots ∧ T'.heap = T.heap ∧ ∀ target, Steps p.tables e below (T'.setTop { g with pc := g.pc + 3, stack := .int 1 :: rest }) target → Steps p.tables e below (T.setTop g) target := by
  obtain ⟨cB, h1, D, h2, h3, h4⟩ := hE
  have h1' : s.vm.findClass C = some cB := by rw [← X.warmed.alike.findClass]; exact h1
  obtain ⟨vm', X', st⟩ := X.instanceofYes hexec hown hlink h2 h4 h1' (by rw [h3]; exact Jvm.Free.SB.assignable_self _ _) hg hstack hdg
  exact ⟨_, X', rfl, st⟩
theorem cself {p : Program} {l : Launch} {e : Env} {R : Room} {s : State} {m : MethodId} {args : Array Value} {below : List Frame} {meth : Method} {c : Code} {T : State} {locs : List Loc} {cells slots : Nat} (X : Stand p l e R s m args below meth c T locs cells slots) (hexec : p.tables.exec = Jvm.exec) {own C : String} {index : Nat} (hown : s.vm.findClass own = some m.cls) (hlink : (Cond.classLink own index C).before args s = true) {a : Addr} (hE : Exact C a T)
    {g : JFrame} (hg : g.method = m) {rest : List Value} (hstack : g.stack = .ref a :: rest) (hdg : decode c.code g.pc = .ok (.checkcast index, 3)) :
    ∃ T', Stand p l e R s m args below meth c T' locs cells slots ∧ T'.heap = T.heap ∧ ∀ target, Steps p.tables e below (T'.setTop { g with pc := g.pc + 3, stack := .ref a :: rest }) target → Steps p.tables e below (T.setTop g) target := by
  obtain ⟨cB, h1, D, h2, h3, h4⟩ := hE
  have h1' : s.vm.findClass C = some cB := by rw [← X.warmed.alike.findClass]; exact h1
  obtain ⟨vm', X', st⟩ := X.checkcastYes hexec hown hlink h2 h4 h1' (by rw [h3]; exact Jvm.Free.SB.assignable_self _ _) hg hstack hdg
  exact ⟨_, X', rfl, fun t h => st t (by rw [← hstack] at h; exact h)⟩
namespace SEq
def yN : MethodName := ⟨"java/lang/String", "equals", "(Ljava/lang/Object;)Z"⟩
abbrev yB : ByteArray := jdk_42_method_66_code
theorem d0 : decode yB 0 = .ok (.aload_n 0, 1) := by decide +kernel
theorem d1 : decode yB 1 = .ok (.aload_n 1, 1) := by decide +kernel
theorem d2 : decode yB 2 = .ok (.if_acmp (.ne) 5, 3) := by decide +kernel
theorem d5 : decode yB 5 = .ok (.iconst 1, 1) := by decide +kernel
theorem d6 : decode yB 6 = .ok (.ireturn, 1) := by decide +kernel
theorem d7 : decode yB 7 = .ok (.aload_n 1, 1) := by decide +kernel
theorem d8 : decode yB 8 = .ok (.instanceof 10, 3) := by decide +kernel
theorem d11 : decode yB 11 = .ok (.ifCond (.eq) 43, 3) := by decide +kernel
theorem d14 : decode yB 14 = .ok (.aload_n 1, 1) := by decide +kernel
theorem d15 : decode yB 15 = .ok (.checkcast 10, 3) := by decide +kernel
theorem d18 : decode yB 18 = .ok (.astore_n 2, 1) := by decide +kernel
theorem d19 : decode yB 19 = .ok (.getstatic 38, 3) := by decide +kernel
theorem d22 : decode yB 22 = .ok (.ifCond (.eq) 14, 3) := by decide +kernel
theorem d25 : decode yB 25 = .ok (.aload_n 0, 1) := by decide +kernel
theorem d26 : decode yB 26 = .ok (.getfield 15, 3) := by decide +kernel
theorem d29 : decode yB 29 = .ok (.aload_n 2, 1) := by decide +kernel
theorem d30 : decode yB 30 = .ok (.getfield 15, 3) := by decide +kernel
theorem d33 : decode yB 33 = .ok (.if_icmp (.ne) 21, 3) := by decide +kernel
theorem d36 : decode yB 36 = .ok (.aload_n 0, 1) := by decide +kernel
theorem d37 : decode yB 37 = .ok (.getfield 9, 3) := by decide +kernel
theorem d40 : decode yB 40 = .ok (.aload_n 2, 1) := by decide +kernel
theorem d41 : decode yB 41 = .ok (.getfield 9, 3) := by decide +kernel
theorem d44 : decode yB 44 = .ok (.invokestatic 541, 3) := by decide +kernel
theorem d47 : decode yB 47 = .ok (.ifCond (.eq) 7, 3) := by decide +kernel
theorem d50 : decode yB 50 = .ok (.iconst 1, 1) := by decide +kernel
theorem d51 : decode yB 51 = .ok (.goto 4, 3) := by decide +kernel
theorem d54 : decode yB 54 = .ok (.iconst 0, 1) := by decide +kernel
theorem d55 : decode yB 55 = .ok (.ireturn, 1) := by decide +kernel
def site : List Cond := [.classLink "java/lang/String" 10 "java/lang/String", .fieldLink "java/lang/String" 38 "java/lang/String" "COMPACT_STRINGS" "Z", .fieldLink "java/lang/String" 15 "java/lang/String" "coder" "B", .fieldLink "java/lang/String" 9 "java/lang/String" "value" "[B", LEq.tab] ++ staticW "java/lang/String" 541 LEq.yN
def tab : Cond := tabOf yN yB 3 (some .boolean) site
def P (x t : Addr) (V : Cell) (cd : Int32) (n : Nat) (f : Nat → Int32) (y t' : Addr) (V' : Cell) (cd' : Int32) (k : Nat) (g : Nat → Int32) (z : Int32) (args : Array Value) (s : State) : Prop := args = #[.ref x, .ref y] ∧ Txt x t V cd n f s ∧ Txt y t' V' cd' k g s ∧ StaticIs s "java/lang/String" "COMPACT_STRINGS" "Z" (.int z) ∧ ¬ z = 0
/-- equals(Object) of two Strings: whether the texts are the same -/
theorem law (l : Launch) (x t : Addr) (V : Cell) (cd : Int32) (n : Nat) (f : Nat → Int32) (y t' : Addr) (V' : Cell) (cd' : Int32) (k : Nat) (g : Nat → Int32) (z : Int32) : Law l yN 2 1 1 14 yB 3 (some .boolean) site (P x t V cd n f y t' V' cd' k g z) (Says01 (SameT n f k g)) [] 0 0 := by
  refine Law.of_walk (plainFor_of_name (by decide +kernel)) (by decide +kernel) (by decide +kernel) (by decide) (fun _ _ h => by rw [h.1]; rfl) (fun _ U U' hal hh h => ⟨h.1, h.2.1.mv hal hh, h.2.2.1.mv hal hh, h.2.2.2.1.there hal hh, h.2.2.2.2⟩) (fun r U U' V V' h1 hal h2 h => Says01.mv r U U' V V' h1 hal h2 h) ?_
  intro p e s m args below meth c s₁ X0 hexec hbytes hml hret hlk hnm hown hh0 W hP
  obtain ⟨rfl, hx, hy, s1, hz⟩ := hP
  have c1 : Steps p.tables e below (s₁.setTop (entryFrame m #[.ref x, .ref y] 3)) (s₁.setTop (mkF m 2 #[.val (.ref x), .val (.ref y), .unset] [.ref y, .ref x])) := Steps.trans (entry rfl) (by
    show Steps p.tables e below (s₁.setTop (mkF m 0 #[.val (.ref x), .val (.ref y), .unset] [])) _
    refine XS.aloadN X0.here hexec rfl (hb hbytes d0) rfl rfl ?_
    refine XS.aloadN X0.here hexec rfl (hb hbytes d1) rfl rfl ?_
    exact Steps.refl _)
  by_cases hxy : x = y
  · have c2 : Steps p.tables e below (s₁.setTop (entryFrame m #[.ref x, .ref y] 3)) (s₁.setTop (mkF m 6 #[.val (.ref x), .val (.ref y), .unset] [.int 1])) := c1.trans (by
      refine acmpNo X0.here hexec rfl (hb hbytes d2) rfl rfl rfl (by simp [acmp, hxy]) ?_
      refine iconstV X0.here hexec rfl 1 (hb hbytes d5) (by decide) ?_
      exact Steps.refl _)
    subst hxy
    have ec : cd = cd' := by
      obtain ⟨D, fd, a1, a2, a3⟩ := hx.2.2.1
      obtain ⟨D', fd', b1, b2, b3⟩ := hy.2.2.1
      cases a1.symm.trans b1
      obtain ⟨q1, q2, q3, q4⟩ := a2.1
      obtain ⟨r1, r2, r3, r4⟩ := b2.1
      cases q4.symm.trans r4
      cases a3.symm.trans b3; rfl
    have et : t = t' := by
      obtain ⟨D, fd, a1, a2, a3⟩ := hx.2.1
      obtain ⟨D', fd', b1, b2, b3⟩ := hy.2.1
      cases a1.symm.trans b1
      obtain ⟨q1, q2, q3, q4⟩ := a2.1
      obtain ⟨r1, r2, r3, r4⟩ := b2.1
      cases q4.symm.trans r4
      cases a3.symm.trans b3; rfl
    subst ec et
    have ev : V = V' := by cases hx.2.2.2.1.1.symm.trans hy.2.2.2.1.1; rfl
    subst ev
    have hs : SameT n f k g := (Cod.eqv hx.2.2.2.2.1 hy.2.2.2.2.1 hx.2.2.2.2.2 hy.2.2.2.2.2).mp ⟨rfl, fun _ _ => rfl⟩
    exact ⟨s₁, some (.int 1), _, _, _, X0, rfl, rfl, rfl, (fun h => by cases h), ⟨1, rfl, hh0, Or.inl ⟨rfl, hs⟩⟩, fun fs hl => c2.trans (X0.ireturnOut hexec hret rfl (Or.inr (Or.inl rfl)) (hb hbytes d6) hl)⟩
  · have c2 : Steps p.tables e below (s₁.setTop (entryFrame m #[.ref x, .ref y] 3)) (s₁.setTop (mkF m 8 #[.val (.ref x), .val (.ref y), .unset] [.ref y])) := c1.trans (by
      refine acmpYes X0.here hexec rfl (pc0 := 2) rfl (hb hbytes d2) rfl rfl rfl (by simp [acmp, hxy]) (by decide) rfl ?_
      refine XS.aloadN X0.here hexec rfl (hb hbytes d7) rfl rfl ?_
      exact Steps.refl _)
    obtain ⟨T3, X3, q3, st3⟩ := cinst X0 hexec hown (wk W (.classLink "java/lang/String" 10 "java/lang/String")) (hy.mv X0.warmed.alike hh0).1 (g := (mkF m 8 #[.val (.ref x), .val (.ref y), .unset] [.ref y])) rfl (rest := []) rfl (hb hbytes d8)
    have hh3 := q3.trans hh0
    have c4 : Steps p.tables e below (s₁.setTop (entryFrame m #[.ref x, .ref y] 3)) (T3.setTop (mkF m 15 #[.val (.ref x), .val (.ref y), .unset] [.ref y])) := (c2.trans (st3 _ (Steps.refl _))).trans (by
      refine XS.ifNo X3.here hexec rfl (hb hbytes d11) rfl (i0_eq_f (by decide)) ?_
      refine XS.aloadN X3.here hexec rfl (hb hbytes d14) rfl rfl ?_
      exact Steps.refl _)
    obtain ⟨T5, X5, q5, st5⟩ := cself X3 hexec hown (wk W (.classLink "java/lang/String" 10 "java/lang/String")) (hy.mv X3.warmed.alike hh3).1 (g := (mkF m 15 #[.val (.ref x), .val (.ref y), .unset] [.ref y])) rfl (rest := []) rfl (hb hbytes d15)
    have hh5 := q5.trans hh3
    have c6 : Steps p.tables e below (s₁.setTop (entryFrame m #[.ref x, .ref y] 3)) (T5.setTop (mkF m 19 #[.val (.ref x), .val (.ref y), .val (.ref y)] [])) := (c4.trans (st5 _ (Steps.refl _))).trans (by
      refine XS.astoreN X5.here hexec rfl (hb hbytes d18) rfl rfl rfl ?_
      exact Steps.refl _)
    obtain ⟨T7, X7, q7, st7⟩ := X5.sget hexec hown (wk W (.fieldLink "java/lang/String" 38 "java/lang/String" "COMPACT_STRINGS" "Z")) s1 (fun _ _ h => by rw [hh5]; exact h) (g := (mkF m 19 #[.val (.ref x), .val (.ref y), .val (.ref y)] [])) rfl (hb hbytes d19)
    have hh7 := q7.trans hh5
    have c8 : Steps p.tables e below (s₁.setTop (entryFrame m #[.ref x, .ref y] 3)) (T7.setTop (mkF m 26 #[.val (.ref x), .val (.ref y), .val (.ref y)] [.ref x])) := (c6.trans (st7 _ (Steps.refl _))).trans (by
      refine XS.ifNo X7.here hexec rfl (hb hbytes d22) rfl (i0_eq_f hz) ?_
      refine XS.aloadN X7.here hexec rfl (hb hbytes d25) rfl rfl ?_
      exact Steps.refl _)
    obtain ⟨T9, X9, q9, st9⟩ := X7.hget hexec hown (wk W (.fieldLink "java/lang/String" 15 "java/lang/String" "coder" "B")) (hx.mv X7.warmed.alike hh7).2.2.1 (g := (mkF m 26 #[.val (.ref x), .val (.ref y), .val (.ref y)] [.ref x])) rfl (rest := []) rfl (hb hbytes d26)
    have hh9 := q9.trans hh7
    have c10 : Steps p.tables e below (s₁.setTop (entryFrame m #[.ref x, .ref y] 3)) (T9.setTop (mkF m 30 #[.val (.ref x), .val (.ref y), .val (.ref y)] [.ref y, .int cd])) := (c8.trans (st9 _ (Steps.refl _))).trans (by
      refine XS.aloadN X9.here hexec rfl (hb hbytes d29) rfl rfl ?_
      exact Steps.refl _)
    obtain ⟨T11, X11, q11, st11⟩ := X9.hget hexec hown (wk W (.fieldLink "java/lang/String" 15 "java/lang/String" "coder" "B")) (hy.mv X9.warmed.alike hh9).2.2.1 (g := (mkF m 30 #[.val (.ref x), .val (.ref y), .val (.ref y)] [.ref y, .int cd])) rfl (rest := [.int cd]) rfl (hb hbytes d30)
    have hh11 := q11.trans hh9
    have c12 : Steps p.tables e below (s₁.setTop (entryFrame m #[.ref x, .ref y] 3)) (T11.setTop (mkF m 33 #[.val (.ref x), .val (.ref y), .val (.ref y)] [.int cd', .int cd])) := c10.trans (st11 _ (Steps.refl _))
    by_cases hcd : cd = cd'
    · subst hcd
      have c13 : Steps p.tables e below (s₁.setTop (entryFrame m #[.ref x, .ref y] 3)) (T11.setTop (mkF m 37 #[.val (.ref x), .val (.ref y), .val (.ref y)] [.ref x])) := c12.trans (by
        refine XS.icmpNo X11.here hexec rfl (hb hbytes d33) rfl (ii_ne_f rfl) ?_
        refine XS.aloadN X11.here hexec rfl (hb hbytes d36) rfl rfl ?_
        exact Steps.refl _)
      obtain ⟨T14, X14, q14, st14⟩ := X11.hget hexec hown (wk W (.fieldLink "java/lang/String" 9 "java/lang/String" "value" "[B")) (hx.mv X11.warmed.alike hh11).2.1 (g := (mkF m 37 #[.val (.ref x), .val (.ref y), .val (.ref y)] [.ref x])) rfl (rest := []) rfl (hb hbytes d37)
      have hh14 := q14.trans hh11
      have c15 : Steps p.tables e below (s₁.setTop (entryFrame m #[.ref x, .ref y] 3)) (T14.setTop (mkF m 41 #[.val (.ref x), .val (.ref y), .val (.ref y)] [.ref y, .ref t])) := (c13.trans (st14 _ (Steps.refl _))).trans (by
        refine XS.aloadN X14.here hexec rfl (hb hbytes d40) rfl rfl ?_
        exact Steps.refl _)
      obtain ⟨T16, X16, q16, st16⟩ := X14.hget hexec hown (wk W (.fieldLink "java/lang/String" 9 "java/lang/String" "value" "[B")) (hy.mv X14.warmed.alike hh14).2.1 (g := (mkF m 41 #[.val (.ref x), .val (.ref y), .val (.ref y)] [.ref y, .ref t])) rfl (rest := [.ref t]) rfl (hb hbytes d41)
      have hh16 := q16.trans hh14
      have c17 : Steps p.tables e below (s₁.setTop (entryFrame m #[.ref x, .ref y] 3)) (T16.setTop (mkF m 44 #[.val (.ref x), .val (.ref y), .val (.ref y)] [.ref t', .ref t])) := c15.trans (st16 _ (Steps.refl _))
      obtain ⟨v18, T18, X18, E18, g18⟩ := X16.callS hexec (LEq.law l t V t' V') hown (wks W (staticW "java/lang/String" 541 LEq.yN)) (wk W LEq.tab) (W := 0) (Nat.le_of_ble_eq_true rfl) (Nat.le_of_ble_eq_true rfl) (Nat.le_refl _) (Nat.le_refl _) (g := (mkF m 44 #[.val (.ref x), .val (.ref y), .val (.ref y)] [.ref t', .ref t])) rfl (by rw [hml]; rfl) c17 (argsL := [.ref t, .ref t']) (rest := []) rfl rfl (by show 2 * 0 + 0 ≤ _; decide) (hb hbytes d44) (⟨rfl, hx.2.2.2.1.mv X16.warmed.alike hh16, hx.2.2.2.2.1.ty, hy.2.2.2.1.mv X16.warmed.alike hh16, hy.2.2.2.2.1.ty⟩)
      obtain ⟨v, rfl, q18, hv⟩ := E18
      have iff := Cod.eqv hx.2.2.2.2.1 hy.2.2.2.2.1 hx.2.2.2.2.2 hy.2.2.2.2.2
      rcases hv with ⟨rfl, he⟩ | ⟨rfl, he⟩
      · have c19 : Steps p.tables e below (s₁.setTop (entryFrame m #[.ref x, .ref y] 3)) (T18.setTop (mkF m 55 #[.val (.ref x), .val (.ref y), .val (.ref y)] [.int 1])) := Steps.trans g18 (by
          refine XS.ifNo X18.here hexec rfl (hb hbytes d47) rfl (i0_eq_f (by decide)) ?_
          refine iconstV X18.here hexec rfl 1 (hb hbytes d50) (by decide) ?_
          refine XS.goto X18.here hexec rfl (pc0 := 51) rfl (hb hbytes d51) (by decide) rfl ?_
          exact Steps.refl _)
        exact ⟨T18, some (.int 1), _, _, _, X18, rfl, rfl, rfl, (fun h => by cases h), ⟨1, rfl, q18.trans hh16, Or.inl ⟨rfl, iff.mp he⟩⟩, fun fs hl => c19.trans (X18.ireturnOut hexec hret rfl (Or.inr (Or.inl rfl)) (hb hbytes d55) hl)⟩
      · have c19 : Steps p.tables e below (s₁.setTop (entryFrame m #[.ref x, .ref y] 3)) (T18.setTop (mkF m 55 #[.val (.ref x), .val (.ref y), .val (.ref y)] [.int 0])) := Steps.trans g18 (by
          refine XS.ifYes X18.here hexec rfl (pc0 := 47) rfl (hb hbytes d47) rfl (i0_eq_t rfl) (by decide) rfl ?_
          refine iconstV X18.here hexec rfl 0 (hb hbytes d54) (by decide) ?_
          exact Steps.refl _)
        exact ⟨T18, some (.int 0), _, _, _, X18, rfl, rfl, rfl, (fun h => by cases h), ⟨0, rfl, q18.trans hh16, Or.inr ⟨rfl, fun q => he (iff.mpr q)⟩⟩, fun fs hl => c19.trans (X18.ireturnOut hexec hret rfl (Or.inr (Or.inl rfl)) (hb hbytes d55) hl)⟩
    · have c13 : Steps p.tables e below (s₁.setTop (entryFrame m #[.ref x, .ref y] 3)) (T11.setTop (mkF m 55 #[.val (.ref x), .val (.ref y), .val (.ref y)] [.int 0])) := c12.trans (by
        refine XS.icmpYes X11.here hexec rfl (pc0 := 33) rfl (hb hbytes d33) rfl (ii_ne_t hcd) (by decide) rfl ?_
        refine iconstV X11.here hexec rfl 0 (hb hbytes d54) (by decide) ?_
        exact Steps.refl _)
      exact ⟨T11, some (.int 0), _, _, _, X11, rfl, rfl, rfl, (fun h => by cases h), ⟨0, rfl, hh11, Or.inr ⟨rfl, Cod.dif hx.2.2.2.2.1 hy.2.2.2.2.1 hcd⟩⟩, fun fs hl => c13.trans (X11.ireturnOut hexec hret rfl (Or.inr (Or.inl rfl)) (hb hbytes d55) hl)⟩
theorem pays {l : Launch} {R : Room} {p : Program} {e : Env} {below : List Frame} {s : State} {sargs : Array Value} {len W : Nat} (x t : Addr) (V : Cell) (cd : Int32) (n : Nat) (f : Nat → Int32) (y t' : Addr) (V' : Cell) (cd' : Int32) (k : Nat) (g : Nat → Int32) (z : Int32) (htab : tab.before sargs s = true) (hfr : 2 ≤ R.frames) (hlo : W + 28 ≤ R.locals) :
    Back l R p e below s sargs yN len W (fun A₁ a₁ => A₁.cells + 0 ≤ R.cells ∧ A₁.slots + 0 ≤ R.slots ∧ P x t V cd n f y t' V' cd' k g z a₁ A₁.U) (fun A₁ _ v₁ B₁ => Says01 (SameT n f k g) v₁ A₁.U B₁.U ∧ B₁.locs = A₁.locs ++ [] ∧ B₁.cells = A₁.cells + 0 ∧ B₁.slots = A₁.slots + 0) :=
  (law l x t V cd n f y t' V' cd' k g z).pays htab hfr (by omega)
end SEq
end StrChars
namespace StrChars.Road
open Jvm Sem ClassFile Op Lib Jvm.Stand Jvm.Free Jvm.Free.XT
open Jvm.Lib.Cold (StaticIs)
/-- the words of String.equals(Object) -/
abbrev wordsEq : List Jvm.Cond := [.code SEq.yN SEq.yB 3 (some .boolean), .initialized ST, .classLink ST 10 ST, .fieldLink ST 38 ST "COMPACT_STRINGS" "Z", .fieldLink ST 15 ST "coder" "B", .fieldLink ST 9 ST "value" "[B", .methodLink ST 541 LEq.yN, .static LEq.yN, .code LEq.yN LEq.yB 3 (some .boolean), .initialized "java/lang/StringLatin1"]
theorem tabEq_of {a : Array Value} {s : State} (h : ∀ w ∈ wordsEq, w.before a s = true) : SEq.tab.before a s = true := by
  have hl : LEq.tab.before a s = true := unparts (wk h (.code LEq.yN LEq.yB 3 (some .boolean))) (wks h (.initialized LEq.yN.cls :: LEq.site))
  have q := consq hl h
  exact unparts (wk q (.code SEq.yN SEq.yB 3 (some .boolean))) (wks q (.initialized SEq.yN.cls :: SEq.site))
theorem movedEq {Z s : State} {a0 args : Array Value} (hZ : Z.Warmed39 s.vm) (hw : ∀ d ∈ wordsEq, d.before a0 Z = true) : ∀ d ∈ wordsEq, d.before args s = true := fun d hd => by
  have t : ∀ d ∈ wordsEq, (d.onTables && d.keepsFace) = true := by decide +kernel
  exact RoadKit.mv hZ (hw d hd) (t d hd)
/-- the road's facts of a String, as the laws ask it -/
theorem txt_of {Z U : State} {a0 : Array Value} {kI : Nat} (wi : (Jvm.Cond.instantiable ST kI).before a0 Z = true) (al : Z.vm.Alike U.vm) {x t : Addr} {kb : ClassId} {cs : List Int32} {cd N2 : Int32} {vs : List Value} (E : RoadKit.Exa Z U.heap x ST) (V : RoadKit.Fld Z U.heap x ST "value" "[B" (.ref t)) (C : RoadKit.Fld Z U.heap x ST "coder" "B" (.int cd)) (K : RoadKit.Arv Z U.heap t kb .byte N2 vs (.int 0)) (hc : CodA cs cd N2 vs) (hb : ∀ c ∈ cs, ¬ c < 0 ∧ ¬ (65535 : Int32) < c) (l2 : cs.length ≤ 4000) :
    ∃ A, Txt x t A cd cs.length (fun j => cs.getD j 0) U := by
  obtain ⟨A, K1, K2, K3, K4, K5, K6⟩ := K
  have hcod := hc.cod (by omega) K3 K5
  obtain ⟨D, fV, fC, hB, F1, F2, g1, g2, -, -⟩ := strObj wi al E V C
  exact ⟨A, ⟨_, hB.2.2.1, D, hB.1, rfl, by cases q : D.vm <;> first | rfl | exact absurd q (hB.2.1.2 _)⟩, Has.of hB F1 g1, Has.of hB F2 g2, ⟨K1.1, State.isArrayOf_alike al K1.2.1, K1.2.2, by rcases hcod with ⟨-, q, -⟩ | ⟨-, q, -⟩ <;> omega⟩, hcod, fun j hj => by
    have e : cs.getD j 0 = cs[j] := by simp [List.getD_eq_getElem?_getD, hj]
    show ¬ cs.getD j 0 < 0 ∧ ¬ 65535 < cs.getD j 0
    rw [e]; exact hb _ (List.getElem_mem _)⟩
theorem same_list (cs ds : List Int32) : SameT cs.length (fun j => cs.getD j 0) ds.length (fun j => ds.getD j 0) ↔ cs = ds := by
  constructor
  · rintro ⟨e, q⟩
    refine List.ext_getElem e fun j h1 h2 => ?_
    have := q j h1
    simpa [List.getD_eq_getElem?_getD, h1, h2] using this
  · rintro rfl
    exact ⟨rfl, fun _ _ => rfl⟩
/-- **equals(Object) OF TWO SUCH STRINGS**: 1 just where the chars are the same -/
theorem eqW {p : Program} {l : Launch} {e : Env} {R : Room} {s : State} {args : Array Value} {below : List Frame} {len W : Nat} {Z : State} {a0 : Array Value} {h : Heap} (hZ : Z.Warmed39 s.vm) (hw : ∀ d ∈ wordsEq, d.before a0 Z = true) {kI : Nat} (wi : (Jvm.Cond.instantiable ST kI).before a0 Z = true)
    {x t : Addr} {kb : ClassId} {cs : List Int32} {cd N2 : Int32} {vs : List Value} (E : RoadKit.Exa Z h x ST) (V : RoadKit.Fld Z h x ST "value" "[B" (.ref t)) (C : RoadKit.Fld Z h x ST "coder" "B" (.int cd)) (K : RoadKit.Arv Z h t kb .byte N2 vs (.int 0)) (hc : CodA cs cd N2 vs) (hb : ∀ c ∈ cs, ¬ c < 0 ∧ ¬ (65535 : Int32) < c) (l2 : cs.length ≤ 4000)
    {y t' : Addr} {kb' : ClassId} {ds : List Int32} {cd' N2' : Int32} {vs' : List Value} (E' : RoadKit.Exa Z h y ST) (V' : RoadKit.Fld Z h y ST "value" "[B" (.ref t')) (C' : RoadKit.Fld Z h y ST "coder" "B" (.int cd')) (K' : RoadKit.Arv Z h t' kb' .byte N2' vs' (.int 0)) (hc' : CodA ds cd' N2' vs') (hb' : ∀ c ∈ ds, ¬ c < 0 ∧ ¬ (65535 : Int32) < c) (l2' : ds.length ≤ 4000)
    {z : Int32} (S : RoadKit.Sta Z h ST "COMPACT_STRINGS" "Z" (.int z)) (hz : ¬ z = 0) (hfr : 2 ≤ R.frames) (hlo : W + 28 ≤ R.locals) :
    Back l R p e below s args (⟨"java/lang/String", "equals", "(Ljava/lang/Object;)Z"⟩ : MethodName) len W (fun P a => a = #[.ref x, .ref y] ∧ P.U.heap = h ∧ P.cells + 0 ≤ R.cells ∧ P.slots + 0 ≤ R.slots)
      (fun P _ v B => ∃ L, (((v = some (.int 1) ∧ cs = ds) ∨ (v = some (.int 0) ∧ ¬ cs = ds)) ∧ L = [] ∧ B.U.heap = h) ∧ B.locs = P.locs ++ L ∧ B.cells = P.cells + 0 ∧ B.slots = P.slots + 0) := by
  intro m meth c P g ig mk a X hg hsize hdg hW hn hp'
  obtain ⟨rfl, rfl, r1, r2⟩ := hp'
  have al : Z.vm.Alike P.U.vm := hZ.alike.trans X.warmed.alike
  obtain ⟨A, hx⟩ := txt_of wi al E V C K hc hb l2
  obtain ⟨A', hy⟩ := txt_of wi al E' V' C' K' hc' hb' l2'
  obtain ⟨v, B, X', ⟨⟨w, hv, hh, hq⟩, hl, hk, hs⟩, st⟩ := SEq.pays x t A cd cs.length (fun j => cs.getD j 0) y t' A' cd' ds.length (fun j => ds.getD j 0) z (tabEq_of (movedEq hZ hw)) hfr hlo m meth c P g ig mk _ X hg hsize hdg hW hn ⟨r1, r2, rfl, hx, hy, sta_is al S, hz⟩
  refine ⟨v, B, X', ⟨[], ⟨?_, rfl, hh⟩, hl, hk, hs⟩, st⟩
  rcases hq with ⟨rfl, q⟩ | ⟨rfl, q⟩
  · exact Or.inl ⟨hv, (same_list cs ds).mp q⟩
  · exact Or.inr ⟨hv, fun e => q ((same_list cs ds).mpr e)⟩
end StrChars.Road
end Jvm.Pilot.@@N@@

namespace Jvm.Pilot.@@N@@
open Jvm Jvm.ClassFile Sem Op Lib Jvm.Free Jvm.Stand Jvm.LawKit Jvm.RoadKit Bundle Jvm.Pilot.@@N@@.Jvm.D
section OwnSteps
variable {p : Program} {l : Launch} {e : Env} {R : Room} {s : State} {m : MethodId} {args : Array Value} {below : List Frame} {meth : Method} {c : Code} {T : State} {locs : List Loc} {cells slots : Nat} {G : State → Outcome → Prop} {B : ByteArray} {pc pc' : Nat} {Ls Ls' : Array Slot} {st : List Value}
/-- from here the run ends as G says -/
def own_E (tb : Tables) (e : Env) (below : List Frame) (G : State → Outcome → Prop) (A : State) : Prop := ∃ s₂ o, Steps tb e below A s₂ ∧ G s₂ o
theorem own_go {tb : Tables} {A A' : State} (h : ∀ t, Steps tb e below A' t → Steps tb e below A t) (k : own_E tb e below G A') : own_E tb e below G A := by
  obtain ⟨s₂, o, h1, h2⟩ := k; exact ⟨s₂, o, h _ h1, h2⟩
theorem own_tr {tb : Tables} {A A' : State} (h : Steps tb e below A A') (k : own_E tb e below G A') : own_E tb e below G A := own_go (fun _ q => h.trans q) k
theorem own_iloadN (X : Stand p l e R s m args below meth c T locs cells slots) (hx : p.tables.exec = Jvm.exec) (hby : c.code = B) {k : Fin 4} {v : Int32} (hd : decode B pc = .ok (.iload_n k, 1)) (hp : pc + 1 = pc') (hl : Ls[k.val]? = some (.val (.int v)))
    (k : own_E p.tables e below G (T.setTop (mkF m pc' Ls (.int v :: st)))) : own_E p.tables e below G (T.setTop (mkF m pc Ls (st))) := by
  subst hp; exact own_go (fun t q => XS.iloadN X.here hx rfl (hb hby hd) hl q) k
theorem own_iload (X : Stand p l e R s m args below meth c T locs cells slots) (hx : p.tables.exec = Jvm.exec) (hby : c.code = B) {k : Nat} {v : Int32} (hd : decode B pc = .ok (.iload k, 2)) (hp : pc + 2 = pc') (hl : Ls[k]? = some (.val (.int v)))
    (k : own_E p.tables e below G (T.setTop (mkF m pc' Ls (.int v :: st)))) : own_E p.tables e below G (T.setTop (mkF m pc Ls (st))) := by
  subst hp; exact own_go (fun t q => XS.iload X.here hx rfl (hb hby hd) hl q) k
theorem own_lloadN (X : Stand p l e R s m args below meth c T locs cells slots) (hx : p.tables.exec = Jvm.exec) (hby : c.code = B) {k : Fin 4} {v : Int64} (hd : decode B pc = .ok (.lload_n k, 1)) (hp : pc + 1 = pc') (hl : Ls[k.val]? = some (.val (.long v)))
    (k : own_E p.tables e below G (T.setTop (mkF m pc' Ls (.long v :: st)))) : own_E p.tables e below G (T.setTop (mkF m pc Ls (st))) := by
  subst hp; exact own_go (fun t q => XS.lloadN X.here hx rfl (hb hby hd) hl q) k
theorem own_lload (X : Stand p l e R s m args below meth c T locs cells slots) (hx : p.tables.exec = Jvm.exec) (hby : c.code = B) {k : Nat} {v : Int64} (hd : decode B pc = .ok (.lload k, 2)) (hp : pc + 2 = pc') (hl : Ls[k]? = some (.val (.long v)))
    (k : own_E p.tables e below G (T.setTop (mkF m pc' Ls (.long v :: st)))) : own_E p.tables e below G (T.setTop (mkF m pc Ls (st))) := by
  subst hp; exact own_go (fun t q => XS.lload X.here hx rfl (hb hby hd) hl q) k
theorem own_aloadN (X : Stand p l e R s m args below meth c T locs cells slots) (hx : p.tables.exec = Jvm.exec) (hby : c.code = B) {k : Fin 4} {v : Value} (hd : decode B pc = .ok (.aload_n k, 1)) (hp : pc + 1 = pc') (hl : Ls[k.val]? = some (.val v)) (hv : v.isRef = true)
    (k : own_E p.tables e below G (T.setTop (mkF m pc' Ls (v :: st)))) : own_E p.tables e below G (T.setTop (mkF m pc Ls (st))) := by
  subst hp; exact own_go (fun t q => XS.aloadN X.here hx rfl (hb hby hd) hl hv q) k
theorem own_aload (X : Stand p l e R s m args below meth c T locs cells slots) (hx : p.tables.exec = Jvm.exec) (hby : c.code = B) {k : Nat} {v : Value} (hd : decode B pc = .ok (.aload k, 2)) (hp : pc + 2 = pc') (hl : Ls[k]? = some (.val v)) (hv : v.isRef = true)
    (k : own_E p.tables e below G (T.setTop (mkF m pc' Ls (v :: st)))) : own_E p.tables e below G (T.setTop (mkF m pc Ls (st))) := by
  subst hp; exact own_go (fun t q => XS.aload X.here hx rfl (hb hby hd) hl hv q) k
theorem own_istoreN (X : Stand p l e R s m args below meth c T locs cells slots) (hx : p.tables.exec = Jvm.exec) (hby : c.code = B) {k : Fin 4} {v : Int32} (hd : decode B pc = .ok (.istore_n k, 1)) (hp : pc + 1 = pc') (hl : storeLocals Ls k.val (.int v) = some Ls')
    (k : own_E p.tables e below G (T.setTop (mkF m pc' Ls' (st)))) : own_E p.tables e below G (T.setTop (mkF m pc Ls (.int v :: st))) := by
  subst hp; exact own_go (fun t q => XS.istoreN X.here hx rfl (hb hby hd) rfl hl q) k
theorem own_istore (X : Stand p l e R s m args below meth c T locs cells slots) (hx : p.tables.exec = Jvm.exec) (hby : c.code = B) {k : Nat} {v : Int32} (hd : decode B pc = .ok (.istore k, 2)) (hp : pc + 2 = pc') (hl : storeLocals Ls k (.int v) = some Ls')
    (k : own_E p.tables e below G (T.setTop (mkF m pc' Ls' (st)))) : own_E p.tables e below G (T.setTop (mkF m pc Ls (.int v :: st))) := by
  subst hp; exact own_go (fun t q => XS.istore X.here hx rfl (hb hby hd) rfl hl q) k
theorem own_lstoreN (X : Stand p l e R s m args below meth c T locs cells slots) (hx : p.tables.exec = Jvm.exec) (hby : c.code = B) {k : Fin 4} {v : Int64} (hd : decode B pc = .ok (.lstore_n k, 1)) (hp : pc + 1 = pc') (hl : storeLocals Ls k.val (.long v) = some Ls')
    (k : own_E p.tables e below G (T.setTop (mkF m pc' Ls' (st)))) : own_E p.tables e below G (T.setTop (mkF m pc Ls (.long v :: st))) := by
  subst hp; exact own_go (fun t q => XS.lstoreN X.here hx rfl (hb hby hd) rfl hl q) k
theorem own_lstore (X : Stand p l e R s m args below meth c T locs cells slots) (hx : p.tables.exec = Jvm.exec) (hby : c.code = B) {k : Nat} {v : Int64} (hd : decode B pc = .ok (.lstore k, 2)) (hp : pc + 2 = pc') (hl : storeLocals Ls k (.long v) = some Ls')
    (k : own_E p.tables e below G (T.setTop (mkF m pc' Ls' (st)))) : own_E p.tables e below G (T.setTop (mkF m pc Ls (.long v :: st))) := by
  subst hp; exact own_go (fun t q => XS.lstore X.here hx rfl (hb hby hd) rfl hl q) k
theorem own_astoreN (X : Stand p l e R s m args below meth c T locs cells slots) (hx : p.tables.exec = Jvm.exec) (hby : c.code = B) {k : Fin 4} {v : Value} (hd : decode B pc = .ok (.astore_n k, 1)) (hp : pc + 1 = pc') (hv : v.isRef = true) (hl : storeLocals Ls k.val v = some Ls')
    (k : own_E p.tables e below G (T.setTop (mkF m pc' Ls' (st)))) : own_E p.tables e below G (T.setTop (mkF m pc Ls (v :: st))) := by
  subst hp; exact own_go (fun t q => XS.astoreN X.here hx rfl (hb hby hd) rfl hv hl q) k
theorem own_astore (X : Stand p l e R s m args below meth c T locs cells slots) (hx : p.tables.exec = Jvm.exec) (hby : c.code = B) {k : Nat} {v : Value} (hd : decode B pc = .ok (.astore k, 2)) (hp : pc + 2 = pc') (hv : v.isRef = true) (hl : storeLocals Ls k v = some Ls')
    (k : own_E p.tables e below G (T.setTop (mkF m pc' Ls' (st)))) : own_E p.tables e below G (T.setTop (mkF m pc Ls (v :: st))) := by
  subst hp; exact own_go (fun t q => XS.astore X.here hx rfl (hb hby hd) rfl hv hl q) k
theorem own_iinc (X : Stand p l e R s m args below meth c T locs cells slots) (hx : p.tables.exec = Jvm.exec) (hby : c.code = B) {k : Nat} {cst : Int} {v z : Int32} (hd : decode B pc = .ok (.iinc k cst, 3)) (hp : pc + 3 = pc') (hl : Ls[k]? = some (.val (.int v))) (hz : Int32.ofInt cst = z) (hl' : storeLocals Ls k (.int (v + z)) = some Ls')
    (k : own_E p.tables e below G (T.setTop (mkF m pc' Ls' (st)))) : own_E p.tables e below G (T.setTop (mkF m pc Ls (st))) := by
  subst hp; exact own_go (fun t q => XS.iinc X.here hx rfl (hb hby hd) hl (hz ▸ hl') q) k
theorem own_iconst (X : Stand p l e R s m args below meth c T locs cells slots) (hx : p.tables.exec = Jvm.exec) (hby : c.code = B) {i : Int} {z : Int32} (hd : decode B pc = .ok (.iconst i, 1)) (hp : pc + 1 = pc') (hz : Int32.ofInt i = z)
    (k : own_E p.tables e below G (T.setTop (mkF m pc' Ls (.int z :: st)))) : own_E p.tables e below G (T.setTop (mkF m pc Ls (st))) := by
  subst hp hz; exact own_go (fun t q => XS.iconst X.here hx rfl (hb hby hd) q) k
theorem own_bipush (X : Stand p l e R s m args below meth c T locs cells slots) (hx : p.tables.exec = Jvm.exec) (hby : c.code = B) {i : Int} {z : Int32} (hd : decode B pc = .ok (.bipush i, 2)) (hp : pc + 2 = pc') (hz : (Int8.ofInt i).toInt32 = z)
    (k : own_E p.tables e below G (T.setTop (mkF m pc' Ls (.int z :: st)))) : own_E p.tables e below G (T.setTop (mkF m pc Ls (st))) := by
  subst hp hz; exact own_go (fun t q => XS.bipush X.here hx rfl (hb hby hd) q) k
theorem own_sipush (X : Stand p l e R s m args below meth c T locs cells slots) (hx : p.tables.exec = Jvm.exec) (hby : c.code = B) {i : Int} {z : Int32} (hd : decode B pc = .ok (.sipush i, 3)) (hp : pc + 3 = pc') (hz : (Int16.ofInt i).toInt32 = z)
    (k : own_E p.tables e below G (T.setTop (mkF m pc' Ls (.int z :: st)))) : own_E p.tables e below G (T.setTop (mkF m pc Ls (st))) := by
  subst hp hz; exact own_go (fun t q => XS.sipush X.here hx rfl (hb hby hd) q) k
theorem own_lconst (X : Stand p l e R s m args below meth c T locs cells slots) (hx : p.tables.exec = Jvm.exec) (hby : c.code = B) {i : Fin 2} {z : Int64} (hd : decode B pc = .ok (.lconst i, 1)) (hp : pc + 1 = pc') (hz : Int64.ofNat i = z)
    (k : own_E p.tables e below G (T.setTop (mkF m pc' Ls (.long z :: st)))) : own_E p.tables e below G (T.setTop (mkF m pc Ls (st))) := by
  subst hp hz; exact own_go (fun t q => XS.lconst X.here hx rfl (hb hby hd) q) k
theorem own_aconst_null (X : Stand p l e R s m args below meth c T locs cells slots) (hx : p.tables.exec = Jvm.exec) (hby : c.code = B)  (hd : decode B pc = .ok (.aconst_null, 1)) (hp : pc + 1 = pc') 
    (k : own_E p.tables e below G (T.setTop (mkF m pc' Ls (.null :: st)))) : own_E p.tables e below G (T.setTop (mkF m pc Ls (st))) := by
  subst hp; exact own_go (fun t q => XS.aconstNull X.here hx rfl (hb hby hd)  q) k
theorem own_iadd (X : Stand p l e R s m args below meth c T locs cells slots) (hx : p.tables.exec = Jvm.exec) (hby : c.code = B) {x y : Int32} (hd : decode B pc = .ok (.iadd, 1)) (hp : pc + 1 = pc') 
    (k : own_E p.tables e below G (T.setTop (mkF m pc' Ls (.int (x + y) :: st)))) : own_E p.tables e below G (T.setTop (mkF m pc Ls (.int y :: .int x :: st))) := by
  subst hp; exact own_go (fun t q => XS.iadd X.here hx rfl (hb hby hd) rfl q) k
theorem own_isub (X : Stand p l e R s m args below meth c T locs cells slots) (hx : p.tables.exec = Jvm.exec) (hby : c.code = B) {x y : Int32} (hd : decode B pc = .ok (.isub, 1)) (hp : pc + 1 = pc') 
    (k : own_E p.tables e below G (T.setTop (mkF m pc' Ls (.int (x - y) :: st)))) : own_E p.tables e below G (T.setTop (mkF m pc Ls (.int y :: .int x :: st))) := by
  subst hp; exact own_go (fun t q => XS.isub X.here hx rfl (hb hby hd) rfl q) k
theorem own_iand (X : Stand p l e R s m args below meth c T locs cells slots) (hx : p.tables.exec = Jvm.exec) (hby : c.code = B) {x y : Int32} (hd : decode B pc = .ok (.iand, 1)) (hp : pc + 1 = pc') 
    (k : own_E p.tables e below G (T.setTop (mkF m pc' Ls (.int (x &&& y) :: st)))) : own_E p.tables e below G (T.setTop (mkF m pc Ls (.int y :: .int x :: st))) := by
  subst hp; exact own_go (fun t q => XS.iand X.here hx rfl (hb hby hd) rfl q) k
theorem own_imul (X : Stand p l e R s m args below meth c T locs cells slots) (hx : p.tables.exec = Jvm.exec) (hby : c.code = B) {x y : Int32} (hd : decode B pc = .ok (.imul, 1)) (hp : pc + 1 = pc') 
    (k : own_E p.tables e below G (T.setTop (mkF m pc' Ls (.int (x * y) :: st)))) : own_E p.tables e below G (T.setTop (mkF m pc Ls (.int y :: .int x :: st))) := by
  subst hp; exact own_go (fun t q => XS.imul X.here hx rfl (hb hby hd) rfl q) k
theorem own_ixor (X : Stand p l e R s m args below meth c T locs cells slots) (hx : p.tables.exec = Jvm.exec) (hby : c.code = B) {x y : Int32} (hd : decode B pc = .ok (.ixor, 1)) (hp : pc + 1 = pc') 
    (k : own_E p.tables e below G (T.setTop (mkF m pc' Ls (.int (x ^^^ y) :: st)))) : own_E p.tables e below G (T.setTop (mkF m pc Ls (.int y :: .int x :: st))) := by
  subst hp; exact own_go (fun t q => XS.ixor X.here hx rfl (hb hby hd) rfl q) k
theorem own_ior (X : Stand p l e R s m args below meth c T locs cells slots) (hx : p.tables.exec = Jvm.exec) (hby : c.code = B) {x y : Int32} (hd : decode B pc = .ok (.ior, 1)) (hp : pc + 1 = pc') 
    (k : own_E p.tables e below G (T.setTop (mkF m pc' Ls (.int (x ||| y) :: st)))) : own_E p.tables e below G (T.setTop (mkF m pc Ls (.int y :: .int x :: st))) := by
  subst hp; exact own_go (fun t q => XS.ior X.here hx rfl (hb hby hd) rfl q) k
theorem own_ishl (X : Stand p l e R s m args below meth c T locs cells slots) (hx : p.tables.exec = Jvm.exec) (hby : c.code = B) {x y : Int32} (hd : decode B pc = .ok (.ishl, 1)) (hp : pc + 1 = pc') 
    (k : own_E p.tables e below G (T.setTop (mkF m pc' Ls (.int (x <<< (y &&& 31)) :: st)))) : own_E p.tables e below G (T.setTop (mkF m pc Ls (.int y :: .int x :: st))) := by
  subst hp; exact own_go (fun t q => XS.ishl X.here hx rfl (hb hby hd) rfl q) k
theorem own_ishr (X : Stand p l e R s m args below meth c T locs cells slots) (hx : p.tables.exec = Jvm.exec) (hby : c.code = B) {x y : Int32} (hd : decode B pc = .ok (.ishr, 1)) (hp : pc + 1 = pc') 
    (k : own_E p.tables e below G (T.setTop (mkF m pc' Ls (.int (x >>> (y &&& 31)) :: st)))) : own_E p.tables e below G (T.setTop (mkF m pc Ls (.int y :: .int x :: st))) := by
  subst hp; exact own_go (fun t q => XS.ishr X.here hx rfl (hb hby hd) rfl q) k
theorem own_iushr (X : Stand p l e R s m args below meth c T locs cells slots) (hx : p.tables.exec = Jvm.exec) (hby : c.code = B) {x y : Int32} (hd : decode B pc = .ok (.iushr, 1)) (hp : pc + 1 = pc') 
    (k : own_E p.tables e below G (T.setTop (mkF m pc' Ls (.int ((x.toUInt32 >>> (y &&& 31).toUInt32).toInt32) :: st)))) : own_E p.tables e below G (T.setTop (mkF m pc Ls (.int y :: .int x :: st))) := by
  subst hp; exact own_go (fun t q => XS.iushr X.here hx rfl (hb hby hd) rfl q) k
theorem own_ladd (X : Stand p l e R s m args below meth c T locs cells slots) (hx : p.tables.exec = Jvm.exec) (hby : c.code = B) {x y : Int64} (hd : decode B pc = .ok (.ladd, 1)) (hp : pc + 1 = pc') 
    (k : own_E p.tables e below G (T.setTop (mkF m pc' Ls (.long (x + y) :: st)))) : own_E p.tables e below G (T.setTop (mkF m pc Ls (.long y :: .long x :: st))) := by
  subst hp; exact own_go (fun t q => XS.ladd X.here hx rfl (hb hby hd) rfl q) k
theorem own_lsub (X : Stand p l e R s m args below meth c T locs cells slots) (hx : p.tables.exec = Jvm.exec) (hby : c.code = B) {x y : Int64} (hd : decode B pc = .ok (.lsub, 1)) (hp : pc + 1 = pc') 
    (k : own_E p.tables e below G (T.setTop (mkF m pc' Ls (.long (x - y) :: st)))) : own_E p.tables e below G (T.setTop (mkF m pc Ls (.long y :: .long x :: st))) := by
  subst hp; exact own_go (fun t q => XS.lsub X.here hx rfl (hb hby hd) rfl q) k
theorem own_lmul (X : Stand p l e R s m args below meth c T locs cells slots) (hx : p.tables.exec = Jvm.exec) (hby : c.code = B) {x y : Int64} (hd : decode B pc = .ok (.lmul, 1)) (hp : pc + 1 = pc') 
    (k : own_E p.tables e below G (T.setTop (mkF m pc' Ls (.long (x * y) :: st)))) : own_E p.tables e below G (T.setTop (mkF m pc Ls (.long y :: .long x :: st))) := by
  subst hp; exact own_go (fun t q => XS.lmul X.here hx rfl (hb hby hd) rfl q) k
theorem own_land (X : Stand p l e R s m args below meth c T locs cells slots) (hx : p.tables.exec = Jvm.exec) (hby : c.code = B) {x y : Int64} (hd : decode B pc = .ok (.land, 1)) (hp : pc + 1 = pc') 
    (k : own_E p.tables e below G (T.setTop (mkF m pc' Ls (.long (x &&& y) :: st)))) : own_E p.tables e below G (T.setTop (mkF m pc Ls (.long y :: .long x :: st))) := by
  subst hp; exact own_go (fun t q => XS.land X.here hx rfl (hb hby hd) rfl q) k
theorem own_lor (X : Stand p l e R s m args below meth c T locs cells slots) (hx : p.tables.exec = Jvm.exec) (hby : c.code = B) {x y : Int64} (hd : decode B pc = .ok (.lor, 1)) (hp : pc + 1 = pc') 
    (k : own_E p.tables e below G (T.setTop (mkF m pc' Ls (.long (x ||| y) :: st)))) : own_E p.tables e below G (T.setTop (mkF m pc Ls (.long y :: .long x :: st))) := by
  subst hp; exact own_go (fun t q => XS.lor X.here hx rfl (hb hby hd) rfl q) k
theorem own_lxor (X : Stand p l e R s m args below meth c T locs cells slots) (hx : p.tables.exec = Jvm.exec) (hby : c.code = B) {x y : Int64} (hd : decode B pc = .ok (.lxor, 1)) (hp : pc + 1 = pc') 
    (k : own_E p.tables e below G (T.setTop (mkF m pc' Ls (.long (x ^^^ y) :: st)))) : own_E p.tables e below G (T.setTop (mkF m pc Ls (.long y :: .long x :: st))) := by
  subst hp; exact own_go (fun t q => XS.lxor X.here hx rfl (hb hby hd) rfl q) k
theorem own_lshl (X : Stand p l e R s m args below meth c T locs cells slots) (hx : p.tables.exec = Jvm.exec) (hby : c.code = B) {x : Int64} {y : Int32} (hd : decode B pc = .ok (.lshl, 1)) (hp : pc + 1 = pc')
    (k : own_E p.tables e below G (T.setTop (mkF m pc' Ls (.long (x <<< (y &&& 0x3f).toInt64) :: st)))) : own_E p.tables e below G (T.setTop (mkF m pc Ls (.int y :: .long x :: st))) := by
  subst hp; exact own_go (fun t q => by
    jvm_step X.here [X.here.top, hx, hb hby hd]
    first | exact q | simpa [Int32.toInt64_and] using q) k
theorem own_lshr (X : Stand p l e R s m args below meth c T locs cells slots) (hx : p.tables.exec = Jvm.exec) (hby : c.code = B) {x : Int64} {y : Int32} (hd : decode B pc = .ok (.lshr, 1)) (hp : pc + 1 = pc')
    (k : own_E p.tables e below G (T.setTop (mkF m pc' Ls (.long (x >>> (y &&& 0x3f).toInt64) :: st)))) : own_E p.tables e below G (T.setTop (mkF m pc Ls (.int y :: .long x :: st))) := by
  subst hp; exact own_go (fun t q => by
    jvm_step X.here [X.here.top, hx, hb hby hd]
    first | exact q | simpa [Int32.toInt64_and] using q) k
theorem own_lushr (X : Stand p l e R s m args below meth c T locs cells slots) (hx : p.tables.exec = Jvm.exec) (hby : c.code = B) {x : Int64} {y : Int32} (hd : decode B pc = .ok (.lushr, 1)) (hp : pc + 1 = pc')
    (k : own_E p.tables e below G (T.setTop (mkF m pc' Ls (.long ((x.toUInt64 >>> (y &&& 0x3f).toInt64.toUInt64).toInt64) :: st)))) : own_E p.tables e below G (T.setTop (mkF m pc Ls (.int y :: .long x :: st))) := by
  subst hp; exact own_go (fun t q => by
    jvm_step X.here [X.here.top, hx, hb hby hd]
    first | exact q | simpa [Int32.toInt64_and] using q) k
theorem own_idiv (X : Stand p l e R s m args below meth c T locs cells slots) (hx : p.tables.exec = Jvm.exec) (hby : c.code = B) {x y : Int32} (hd : decode B pc = .ok (.idiv, 1)) (hp : pc + 1 = pc') (hy : y ≠ 0)
    (k : own_E p.tables e below G (T.setTop (mkF m pc' Ls (.int (x / y) :: st)))) : own_E p.tables e below G (T.setTop (mkF m pc Ls (.int y :: .int x :: st))) := by
  subst hp; exact own_go (fun t q => XS.idiv X.here hx rfl (hb hby hd) rfl hy q) k
theorem own_irem (X : Stand p l e R s m args below meth c T locs cells slots) (hx : p.tables.exec = Jvm.exec) (hby : c.code = B) {x y : Int32} (hd : decode B pc = .ok (.irem, 1)) (hp : pc + 1 = pc') (hy : y ≠ 0)
    (k : own_E p.tables e below G (T.setTop (mkF m pc' Ls (.int (x % y) :: st)))) : own_E p.tables e below G (T.setTop (mkF m pc Ls (.int y :: .int x :: st))) := by
  subst hp; exact own_go (fun t q => iremM X hx rfl (hb hby hd) rfl hy q) k
theorem own_lrem (X : Stand p l e R s m args below meth c T locs cells slots) (hx : p.tables.exec = Jvm.exec) (hby : c.code = B) {x y : Int64} (hd : decode B pc = .ok (.lrem, 1)) (hp : pc + 1 = pc') (hy : y ≠ 0)
    (k : own_E p.tables e below G (T.setTop (mkF m pc' Ls (.long (x % y) :: st)))) : own_E p.tables e below G (T.setTop (mkF m pc Ls (.long y :: .long x :: st))) := by
  subst hp; exact own_go (fun t q => XS.lrem X.here hx rfl (hb hby hd) rfl hy (by rw [lrem_mod]; exact q)) k
theorem own_ineg (X : Stand p l e R s m args below meth c T locs cells slots) (hx : p.tables.exec = Jvm.exec) (hby : c.code = B) {x : Int32} (hd : decode B pc = .ok (.ineg, 1)) (hp : pc + 1 = pc') 
    (k : own_E p.tables e below G (T.setTop (mkF m pc' Ls (.int (-x) :: st)))) : own_E p.tables e below G (T.setTop (mkF m pc Ls (.int x :: st))) := by
  subst hp; exact own_go (fun t q => XS.ineg X.here hx rfl (hb hby hd) rfl q) k
theorem own_lneg (X : Stand p l e R s m args below meth c T locs cells slots) (hx : p.tables.exec = Jvm.exec) (hby : c.code = B) {x : Int64} (hd : decode B pc = .ok (.lneg, 1)) (hp : pc + 1 = pc') 
    (k : own_E p.tables e below G (T.setTop (mkF m pc' Ls (.long (-x) :: st)))) : own_E p.tables e below G (T.setTop (mkF m pc Ls (.long x :: st))) := by
  subst hp; exact own_go (fun t q => XS.lneg X.here hx rfl (hb hby hd) rfl q) k
theorem own_i2l (X : Stand p l e R s m args below meth c T locs cells slots) (hx : p.tables.exec = Jvm.exec) (hby : c.code = B) {x : Int32} (hd : decode B pc = .ok (.i2l, 1)) (hp : pc + 1 = pc') 
    (k : own_E p.tables e below G (T.setTop (mkF m pc' Ls (.long (x.toInt64) :: st)))) : own_E p.tables e below G (T.setTop (mkF m pc Ls (.int x :: st))) := by
  subst hp; exact own_go (fun t q => XS.i2l X.here hx rfl (hb hby hd) rfl q) k
theorem own_l2i (X : Stand p l e R s m args below meth c T locs cells slots) (hx : p.tables.exec = Jvm.exec) (hby : c.code = B) {x : Int64} (hd : decode B pc = .ok (.l2i, 1)) (hp : pc + 1 = pc') 
    (k : own_E p.tables e below G (T.setTop (mkF m pc' Ls (.int (x.toInt32) :: st)))) : own_E p.tables e below G (T.setTop (mkF m pc Ls (.long x :: st))) := by
  subst hp; exact own_go (fun t q => XS.l2i X.here hx rfl (hb hby hd) rfl q) k
theorem own_i2b (X : Stand p l e R s m args below meth c T locs cells slots) (hx : p.tables.exec = Jvm.exec) (hby : c.code = B) {x : Int32} (hd : decode B pc = .ok (.i2b, 1)) (hp : pc + 1 = pc') 
    (k : own_E p.tables e below G (T.setTop (mkF m pc' Ls (.int (x.toInt8.toInt32) :: st)))) : own_E p.tables e below G (T.setTop (mkF m pc Ls (.int x :: st))) := by
  subst hp; exact own_go (fun t q => XS.i2b X.here hx rfl (hb hby hd) rfl q) k
theorem own_i2c (X : Stand p l e R s m args below meth c T locs cells slots) (hx : p.tables.exec = Jvm.exec) (hby : c.code = B) {x : Int32} (hd : decode B pc = .ok (.i2c, 1)) (hp : pc + 1 = pc') 
    (k : own_E p.tables e below G (T.setTop (mkF m pc' Ls (.int (x.toUInt32.toUInt16.toUInt32.toInt32) :: st)))) : own_E p.tables e below G (T.setTop (mkF m pc Ls (.int x :: st))) := by
  subst hp; exact own_go (fun t q => XS.i2c X.here hx rfl (hb hby hd) rfl q) k
theorem own_i2s (X : Stand p l e R s m args below meth c T locs cells slots) (hx : p.tables.exec = Jvm.exec) (hby : c.code = B) {x : Int32} (hd : decode B pc = .ok (.i2s, 1)) (hp : pc + 1 = pc') 
    (k : own_E p.tables e below G (T.setTop (mkF m pc' Ls (.int (x.toInt16.toInt32) :: st)))) : own_E p.tables e below G (T.setTop (mkF m pc Ls (.int x :: st))) := by
  subst hp; exact own_go (fun t q => XS.i2s X.here hx rfl (hb hby hd) rfl q) k
theorem own_i2cE (X : Stand p l e R s m args below meth c T locs cells slots) (hx : p.tables.exec = Jvm.exec) (hby : c.code = B) {x v : Int32} (hd : decode B pc = .ok (.i2c, 1)) (hp : pc + 1 = pc') (hv : x.toUInt32.toUInt16.toUInt32.toInt32 = v)
    (k : own_E p.tables e below G (T.setTop (mkF m pc' Ls (.int v :: st)))) : own_E p.tables e below G (T.setTop (mkF m pc Ls (.int x :: st))) := by
  subst hv; exact own_i2c X hx hby hd hp k
theorem own_lcmp (X : Stand p l e R s m args below meth c T locs cells slots) (hx : p.tables.exec = Jvm.exec) (hby : c.code = B) {x y : Int64} (hd : decode B pc = .ok (.lcmp, 1)) (hp : pc + 1 = pc')
    (k : own_E p.tables e below G (T.setTop (mkF m pc' Ls (.int (lcmpW x y) :: st)))) : own_E p.tables e below G (T.setTop (mkF m pc Ls (.long y :: .long x :: st))) := by
  subst hp; exact own_go (fun t q => XS.lcmp X.here hx rfl (hb hby hd) rfl q) k
theorem own_dup (X : Stand p l e R s m args below meth c T locs cells slots) (hx : p.tables.exec = Jvm.exec) (hby : c.code = B) {v : Value} (hd : decode B pc = .ok (.dup, 1)) (hp : pc + 1 = pc') (hc : v.category = 1)
    (k : own_E p.tables e below G (T.setTop (mkF m pc' Ls (v :: v :: st)))) : own_E p.tables e below G (T.setTop (mkF m pc Ls (v :: st))) := by
  subst hp; exact own_go (fun t q => XS.dup X.here hx rfl (hb hby hd) rfl hc q) k
theorem own_pop (X : Stand p l e R s m args below meth c T locs cells slots) (hx : p.tables.exec = Jvm.exec) (hby : c.code = B) {v : Value} (hd : decode B pc = .ok (.pop, 1)) (hp : pc + 1 = pc') (hc : v.category = 1)
    (k : own_E p.tables e below G (T.setTop (mkF m pc' Ls (st)))) : own_E p.tables e below G (T.setTop (mkF m pc Ls (v :: st))) := by
  subst hp; exact own_go (fun t q => XS.pop X.here hx rfl (hb hby hd) rfl hc q) k
theorem own_dup_x1 (X : Stand p l e R s m args below meth c T locs cells slots) (hx : p.tables.exec = Jvm.exec) (hby : c.code = B) {v w : Value} (hd : decode B pc = .ok (.dup_x1, 1)) (hp : pc + 1 = pc') (hc : v.category = 1) (hc' : w.category = 1)
    (k : own_E p.tables e below G (T.setTop (mkF m pc' Ls (v :: w :: v :: st)))) : own_E p.tables e below G (T.setTop (mkF m pc Ls (v :: w :: st))) := by
  subst hp; exact own_go (fun t q => XS.dupX1 X.here hx rfl (hb hby hd) rfl hc hc' q) k
theorem own_dup2 (X : Stand p l e R s m args below meth c T locs cells slots) (hx : p.tables.exec = Jvm.exec) (hby : c.code = B) {v w : Value} (hd : decode B pc = .ok (.dup2, 1)) (hp : pc + 1 = pc') (hc : v.category = 1) (hc' : w.category = 1)
    (k : own_E p.tables e below G (T.setTop (mkF m pc' Ls (v :: w :: v :: w :: st)))) : own_E p.tables e below G (T.setTop (mkF m pc Ls (v :: w :: st))) := by
  subst hp; exact own_go (fun t q => by
    jvm_step X.here [X.here.top, hx, hb hby hd, hc, hc']
    exact q) k
theorem own_goto (X : Stand p l e R s m args below meth c T locs cells slots) (hx : p.tables.exec = Jvm.exec) (hby : c.code = B) {o : Int} (hd : decode B pc = .ok (.goto o, 3)) (ho : 0 ≤ (pc : Int) + o) (hp : ((pc : Int) + o).toNat = pc')
    (k : own_E p.tables e below G (T.setTop (mkF m pc' Ls (st)))) : own_E p.tables e below G (T.setTop (mkF m pc Ls (st))) := own_go (fun t q => XS.goto X.here hx rfl rfl (hb hby hd) ho hp q) k
theorem own_ifY (X : Stand p l e R s m args below meth c T locs cells slots) (hx : p.tables.exec = Jvm.exec) (hby : c.code = B) {cd : ClassFile.Cond} {x : Int32} {o : Int} (hd : decode B pc = .ok (.ifCond cd o, 3)) (ho : 0 ≤ (pc : Int) + o) (hp : ((pc : Int) + o).toNat = pc') (hc : if_icmp.holds cd x 0 = true)
    (k : own_E p.tables e below G (T.setTop (mkF m pc' Ls (st)))) : own_E p.tables e below G (T.setTop (mkF m pc Ls (.int x :: st))) := own_go (fun t q => XS.ifYes X.here hx rfl rfl (hb hby hd) rfl ((if0 _ _).trans hc) ho hp q) k
theorem own_ifN (X : Stand p l e R s m args below meth c T locs cells slots) (hx : p.tables.exec = Jvm.exec) (hby : c.code = B) {cd : ClassFile.Cond} {x : Int32} {o : Int} (hd : decode B pc = .ok (.ifCond cd o, 3)) (hp : pc + 3 = pc') (hc : if_icmp.holds cd x 0 = false)
    (k : own_E p.tables e below G (T.setTop (mkF m pc' Ls (st)))) : own_E p.tables e below G (T.setTop (mkF m pc Ls (.int x :: st))) := by
  subst hp; exact own_go (fun t q => XS.ifNo X.here hx rfl (hb hby hd) rfl ((if0 _ _).trans hc) q) k
theorem own_icmpY (X : Stand p l e R s m args below meth c T locs cells slots) (hx : p.tables.exec = Jvm.exec) (hby : c.code = B) {cd : ClassFile.Cond} {x y : Int32} {o : Int} (hd : decode B pc = .ok (.if_icmp cd o, 3)) (ho : 0 ≤ (pc : Int) + o) (hp : ((pc : Int) + o).toNat = pc') (hc : if_icmp.holds cd x y = true)
    (k : own_E p.tables e below G (T.setTop (mkF m pc' Ls (st)))) : own_E p.tables e below G (T.setTop (mkF m pc Ls (.int y :: .int x :: st))) := own_go (fun t q => XS.icmpYes X.here hx rfl rfl (hb hby hd) rfl hc ho hp q) k
theorem own_icmpN (X : Stand p l e R s m args below meth c T locs cells slots) (hx : p.tables.exec = Jvm.exec) (hby : c.code = B) {cd : ClassFile.Cond} {x y : Int32} {o : Int} (hd : decode B pc = .ok (.if_icmp cd o, 3)) (hp : pc + 3 = pc') (hc : if_icmp.holds cd x y = false)
    (k : own_E p.tables e below G (T.setTop (mkF m pc' Ls (st)))) : own_E p.tables e below G (T.setTop (mkF m pc Ls (.int y :: .int x :: st))) := by
  subst hp; exact own_go (fun t q => XS.icmpNo X.here hx rfl (hb hby hd) rfl hc q) k
theorem own_ifnullY (X : Stand p l e R s m args below meth c T locs cells slots) (hx : p.tables.exec = Jvm.exec) (hby : c.code = B)  {o : Int} (hd : decode B pc = .ok (.ifnull o, 3)) (ho : 0 ≤ (pc : Int) + o) (hp : ((pc : Int) + o).toNat = pc')
    (k : own_E p.tables e below G (T.setTop (mkF m pc' Ls (st)))) : own_E p.tables e below G (T.setTop (mkF m pc Ls (.null :: st))) := own_go (fun t q => XS.ifnullYes X.here hx rfl rfl (hb hby hd) rfl ho hp q) k
theorem own_ifnonnullY (X : Stand p l e R s m args below meth c T locs cells slots) (hx : p.tables.exec = Jvm.exec) (hby : c.code = B) {b : Addr} {o : Int} (hd : decode B pc = .ok (.ifnonnull o, 3)) (ho : 0 ≤ (pc : Int) + o) (hp : ((pc : Int) + o).toNat = pc')
    (k : own_E p.tables e below G (T.setTop (mkF m pc' Ls (st)))) : own_E p.tables e below G (T.setTop (mkF m pc Ls (.ref b :: st))) := own_go (fun t q => XS.ifnonnullYes X.here hx rfl rfl (hb hby hd) rfl ho hp q) k
theorem own_ifnullN (X : Stand p l e R s m args below meth c T locs cells slots) (hx : p.tables.exec = Jvm.exec) (hby : c.code = B) {b : Addr} {o : Int} (hd : decode B pc = .ok (.ifnull o, 3)) (hp : pc + 3 = pc')
    (k : own_E p.tables e below G (T.setTop (mkF m pc' Ls (st)))) : own_E p.tables e below G (T.setTop (mkF m pc Ls (.ref b :: st))) := by
  subst hp; exact own_go (fun t q => XS.ifnullNo X.here hx rfl (hb hby hd) rfl q) k
theorem own_ifnonnullN (X : Stand p l e R s m args below meth c T locs cells slots) (hx : p.tables.exec = Jvm.exec) (hby : c.code = B)  {o : Int} (hd : decode B pc = .ok (.ifnonnull o, 3)) (hp : pc + 3 = pc')
    (k : own_E p.tables e below G (T.setTop (mkF m pc' Ls (st)))) : own_E p.tables e below G (T.setTop (mkF m pc Ls (.null :: st))) := by
  subst hp; exact own_go (fun t q => XS.ifnonnullNo X.here hx rfl (hb hby hd) rfl q) k
theorem own_acmp (X : Stand p l e R s m args below meth c T locs cells slots) (hx : p.tables.exec = Jvm.exec) (hby : c.code = B) {cd : ClassFile.ACond} {x y : Value} {o : Int} {same : Bool} (hd : decode B pc = .ok (.if_acmp cd o, 3)) (h1 : x.isRef = true) (h2 : y.isRef = true) (hq : decide (x = y) = same) (ho : 0 ≤ (pc : Int) + o) (hp : pc' = if acV cd same = true then ((pc : Int) + o).toNat else pc + 3)
    (k : own_E p.tables e below G (T.setTop (mkF m pc' Ls (st)))) : own_E p.tables e below G (T.setTop (mkF m pc Ls (y :: x :: st))) := own_go (fun t q => Jvm.RoadKit.acmp (g := mkF m pc Ls (y :: x :: st)) X hx rfl h1 h2 rfl (hb hby hd) rfl hq ho hp q) k
/-- what a body owes at its end -/
def own_End (s : State) (below : List Frame) (Q : Option Value → Heap → List Loc → Prop) (C S : Nat) (s₂ : State) (o : Outcome) : Prop := s₂.status = .running ∧ Ended s₂ below o ∧ ∃ v L, o = .returned v ∧ Q v s₂.heap L ∧ FrameEnd s o s₂ L C S
theorem own_ret (X : Stand p l e R s m args below meth c T locs cells slots) {Q : Option Value → Heap → List Loc → Prop} {C S : Nat} {v : Option Value} (hv : meth.sig.returnType = none → v = none) (hlocks : meth.locks = false)
    (hst : ∀ fs : List Frame, (∀ (f : JFrame) (acts : List Action), f.method = m → f.locked = none → f.entered = [] → (doReturn e (T.setTop f) acts v).1 = T.setFrames fs) → Steps p.tables e below (T.setTop (mkF m pc Ls st)) (T.setFrames fs))
    (hq : Q v T.heap locs) (hc : cells ≤ C) (hs : slots ≤ S) : own_E p.tables e below (own_End s below Q C S) (T.setTop (mkF m pc Ls st)) := by
  obtain ⟨fs, hr, hrun, hended, hW, hsame⟩ := X.leave hv hlocks
  exact ⟨_, _, hst fs hr, hrun, hended, v, locs, rfl, hq, ⟨_, rfl⟩, hW, hsame.mono hc hs⟩
theorem own_retN (X : Stand p l e R s m args below meth c T locs cells slots) (hx : p.tables.exec = Jvm.exec) (hby : c.code = B) {Q : Option Value → Heap → List Loc → Prop} {C S : Nat} {t : FieldType} {z z' : Int32} (hlocks : meth.locks = false) (hret : meth.sig.returnType = some t) (ht : t = .boolean ∨ t = .byte ∨ t = .char ∨ t = .short)
    (hd : decode B pc = .ok (.ireturn, 1)) (hz : nar t z = z') (hq : Q (some (.int z')) T.heap locs) (hc : cells ≤ C) (hs : slots ≤ S) : own_E p.tables e below (own_End s below Q C S) (T.setTop (mkF m pc Ls (.int z :: st))) :=
  own_ret X (fun h => by rw [hret] at h; cases h) hlocks (fun fs hl => retN X hx (t := t) hret ht (hb hby hd) (by rw [hz]; exact hl)) hq hc hs
theorem own_retI (X : Stand p l e R s m args below meth c T locs cells slots) (hx : p.tables.exec = Jvm.exec) (hby : c.code = B) {Q : Option Value → Heap → List Loc → Prop} {C S : Nat} {z : Int32} (hlocks : meth.locks = false) (hret : meth.sig.returnType = some .int)
    (hd : decode B pc = .ok (.ireturn, 1)) (hq : Q (some (.int z)) T.heap locs) (hc : cells ≤ C) (hs : slots ≤ S) : own_E p.tables e below (own_End s below Q C S) (T.setTop (mkF m pc Ls (.int z :: st))) :=
  own_ret X (fun h => by rw [hret] at h; cases h) hlocks (fun fs hl => retOut X hx hret rfl (Or.inl ⟨rfl, Or.inl rfl, _, rfl⟩) (hb hby hd) hl) hq hc hs
theorem own_retL (X : Stand p l e R s m args below meth c T locs cells slots) (hx : p.tables.exec = Jvm.exec) (hby : c.code = B) {Q : Option Value → Heap → List Loc → Prop} {C S : Nat} {z : Int64} (hlocks : meth.locks = false) (hret : meth.sig.returnType = some .long)
    (hd : decode B pc = .ok (.lreturn, 1)) (hq : Q (some (.long z)) T.heap locs) (hc : cells ≤ C) (hs : slots ≤ S) : own_E p.tables e below (own_End s below Q C S) (T.setTop (mkF m pc Ls (.long z :: st))) :=
  own_ret X (fun h => by rw [hret] at h; cases h) hlocks (fun fs hl => retOut X hx hret rfl (Or.inr (Or.inl ⟨rfl, rfl, _, rfl⟩)) (hb hby hd) hl) hq hc hs
theorem own_retD (X : Stand p l e R s m args below meth c T locs cells slots) (hx : p.tables.exec = Jvm.exec) (hby : c.code = B) {Q : Option Value → Heap → List Loc → Prop} {C S : Nat} {z : UInt64} (hlocks : meth.locks = false) (hret : meth.sig.returnType = some .double)
    (hd : decode B pc = .ok (.dreturn, 1)) (hq : Q (some (.double z)) T.heap locs) (hc : cells ≤ C) (hs : slots ≤ S) : own_E p.tables e below (own_End s below Q C S) (T.setTop (mkF m pc Ls (.double z :: st))) :=
  own_ret X (fun h => by rw [hret] at h; cases h) hlocks (fun fs hl => retOut X hx hret rfl (Or.inr (Or.inr (Or.inl ⟨rfl, rfl, _, rfl⟩))) (hb hby hd) hl) hq hc hs
theorem own_retA (X : Stand p l e R s m args below meth c T locs cells slots) (hx : p.tables.exec = Jvm.exec) (hby : c.code = B) {Q : Option Value → Heap → List Loc → Prop} {C S : Nat} {t : FieldType} {v : Value} (hlocks : meth.locks = false) (hret : meth.sig.returnType = some t) (ht : t.isReference = true) (hv : v.isRef = true)
    (hd : decode B pc = .ok (.areturn, 1)) (hq : Q (some v) T.heap locs) (hc : cells ≤ C) (hs : slots ≤ S) : own_E p.tables e below (own_End s below Q C S) (T.setTop (mkF m pc Ls (v :: st))) :=
  own_ret X (fun h => by rw [hret] at h; cases h) hlocks (fun fs hl => retOut X hx hret (by cases t <;> first | (cases ht; done) | (rcases ref_cases hv with rfl | ⟨_, rfl⟩ <;> rfl)) (Or.inr (Or.inr (Or.inr (Or.inr ⟨rfl, ht, hv⟩)))) (hb hby hd) hl) hq hc hs
theorem own_ret0 (X : Stand p l e R s m args below meth c T locs cells slots) (hx : p.tables.exec = Jvm.exec) (hby : c.code = B) {Q : Option Value → Heap → List Loc → Prop} {C S : Nat} (hlocks : meth.locks = false) (hret : meth.sig.returnType = none)
    (hd : decode B pc = .ok (.return_, 1)) (hq : Q none T.heap locs) (hc : cells ≤ C) (hs : slots ≤ S) : own_E p.tables e below (own_End s below Q C S) (T.setTop (mkF m pc Ls [])) :=
  own_ret X (fun _ => rfl) hlocks (fun fs hl => X.returnOut hx hret (hb hby hd) hl) hq hc hs
theorem own_callS (X : Stand p l e R s m args below meth c T locs cells slots) (hx : p.tables.exec = Jvm.exec) (hby : c.code = B) {Z : State} {a0 : Array Value} {h : Heap} {own : String} {index nl : Nat} {as' : Array Value} {W cc ss : Nat} {Q : Option Value → Heap → List Loc → Prop} {y : MethodName} {bytes : ByteArray} {maxL : Nat} {ret : Option FieldType} (hml : c.maxLocals = nl) (hZ : Z.Warmed39 s.vm) (hown : s.vm.findClass own = some m.cls)
    (w1 : (Cond.methodLink own index y).before a0 Z = true) (w2 : (Cond.static y).before a0 Z = true) (w3 : (Cond.initialized y.cls).before a0 Z = true) (w4 : (Cond.code y bytes maxL ret).before a0 Z = true) (hy : y.cls ≠ "java/lang/invoke/MethodHandle" ∧ y.cls ≠ "java/lang/invoke/VarHandle")
    (hK : Back l R p e below s args y 3 W (fun P a => a = as' ∧ P.U.heap = h ∧ P.cells + cc ≤ R.cells ∧ P.slots + ss ≤ R.slots) (fun P _ v B => ∃ L, Q v B.U.heap L ∧ B.locs = P.locs ++ L ∧ B.cells = P.cells + cc ∧ B.slots = P.slots + ss)) (hsz : Ls.size = nl) {argsL rest : List Value} {ps : List FieldType} {r : Option FieldType} (hpd : parseMethodDescriptor y.desc = some ⟨ps, r⟩) (hlen : argsL.length = ps.length) (hst : st = argsL.reverse ++ rest) (hW : (rest.map fun v => v.category).sum ≤ W)
    (hd : decode B pc = .ok (.invokestatic index, 3)) (hp : pc + 3 = pc') (hargs : argsL.toArray = as') (eT : T.heap = h) (hc : cells + cc ≤ R.cells) (hs : slots + ss ≤ R.slots)
    (k : ∀ (v : Option Value) (T' : State) (h' : Heap) (L : List Loc), Stand p l e R s m args below meth c T' (locs ++ L) (cells + cc) (slots + ss) → T'.heap = h' → Q v h' L → own_E p.tables e below G (T'.setTop (mkF m pc' Ls (v.toList ++ rest)))) : own_E p.tables e below G (T.setTop (mkF m pc Ls st)) := by
  subst hp
  obtain ⟨v, vm₁, ⟨T', L', k', n'⟩, -, X', ⟨L, hQ, q1, q2, q3⟩, stp⟩ := Jvm.LawKit.callS X hx hown (mvT hZ w1) (mvT hZ w2) (mvT hZ w3) (mvT hZ w4) hy hK (g := mkF m pc Ls st) rfl (by rw [hml]; exact hsz) (argsL := argsL) (rest := rest) (lenOf hpd hlen) hst (by show 2 * 0 + _ ≤ _; rw [Nat.mul_zero, Nat.zero_add]; exact hW) (hb hby hd) (fun _ _ => ⟨hargs, eT, hc, hs⟩)
  dsimp only at X' hQ q1 q2 q3 stp
  subst q1 q2 q3
  exact own_go stp (k v T' _ L X' rfl hQ)
theorem own_spec (X : Stand p l e R s m args below meth c T locs cells slots) (hx : p.tables.exec = Jvm.exec) (hby : c.code = B) {Z : State} {a0 : Array Value} {h : Heap} {own : String} {index nl : Nat} {as' : Array Value} {W cc ss : Nat} {Q : Option Value → Heap → List Loc → Prop} {y : MethodName} {bytes : ByteArray} {maxL : Nat} (hml : c.maxLocals = nl) (hZ : Z.Warmed39 s.vm) (hown : s.vm.findClass own = some m.cls) (hy1 : y.name = "<init>")
    (w1 : (Cond.methodLink own index y).before a0 Z = true) (w2 : (Cond.instanceMethod y).before a0 Z = true) (w4 : (Cond.code y bytes maxL none).before a0 Z = true) (hy : y.cls ≠ "java/lang/invoke/MethodHandle" ∧ y.cls ≠ "java/lang/invoke/VarHandle")
    (hK : Back l R p e below s args y 3 W (fun P a => a = as' ∧ P.U.heap = h ∧ P.cells + cc ≤ R.cells ∧ P.slots + ss ≤ R.slots) (fun P _ v B => ∃ L, Q v B.U.heap L ∧ B.locs = P.locs ++ L ∧ B.cells = P.cells + cc ∧ B.slots = P.slots + ss)) (hsz : Ls.size = nl) {a : Addr} {argsL rest : List Value} {ps : List FieldType} {r : Option FieldType} (hpd : parseMethodDescriptor y.desc = some ⟨ps, r⟩) (hlen : argsL.length = ps.length) (hst : st = argsL.reverse ++ .ref a :: rest) (hW : (rest.map fun v => v.category).sum ≤ W)
    (hd : decode B pc = .ok (.invokespecial index, 3)) (hp : pc + 3 = pc') (hargs : (.ref a :: argsL).toArray = as') (eT : T.heap = h) (hc : cells + cc ≤ R.cells) (hs : slots + ss ≤ R.slots)
    (k : ∀ (v : Option Value) (T' : State) (h' : Heap) (L : List Loc), Stand p l e R s m args below meth c T' (locs ++ L) (cells + cc) (slots + ss) → T'.heap = h' → Q v h' L → own_E p.tables e below G (T'.setTop (mkF m pc' Ls (v.toList ++ rest)))) : own_E p.tables e below G (T.setTop (mkF m pc Ls st)) := by
  subst hp
  obtain ⟨v, vm₁, ⟨T', L', k', n'⟩, -, X', ⟨L, hQ, q1, q2, q3⟩, stp⟩ := X.specialBack hx hy1 hown (mvT hZ w1) (mvT hZ w2) (mvT hZ w4) hy hK (g := mkF m pc Ls st) rfl (by rw [hml]; exact hsz) (Steps.refl _) (a := a) (argsL := argsL) (rest := rest) (lenOf hpd hlen) hst (by show 2 * 0 + _ ≤ _; rw [Nat.mul_zero, Nat.zero_add]; exact hW) (hb hby hd) (fun _ _ => ⟨hargs, eT, hc, hs⟩)
  dsimp only at X' hQ q1 q2 q3 stp
  subst q1 q2 q3
  exact own_tr stp (k v T' _ L X' rfl hQ)
theorem own_virt (X : Stand p l e R s m args below meth c T locs cells slots) (hx : p.tables.exec = Jvm.exec) (hby : c.code = B) {Z : State} {a0 : Array Value} {h : Heap} {own : String} {index nl : Nat} {as' : Array Value} {W cc ss : Nat} {Q : Option Value → Heap → List Loc → Prop} {C : String} {y z : MethodName} (hml : c.maxLocals = nl) (hZ : Z.Warmed39 s.vm) (hown : s.vm.findClass own = some m.cls)
    (w1 : (Cond.methodLink own index y).before a0 Z = true) (w2 : (Cond.declares y).before a0 Z = true) (hnf : NotFace s y) (w3 : (Cond.selects C y z).before a0 Z = true) (w4 : (Cond.instanceMethod z).before a0 Z = true) (hy : y.cls ≠ "java/lang/invoke/MethodHandle" ∧ y.cls ≠ "java/lang/invoke/VarHandle")
    (hK : Back l R p e below s args z 3 W (fun P a => a = as' ∧ P.U.heap = h ∧ P.cells + cc ≤ R.cells ∧ P.slots + ss ≤ R.slots) (fun P _ v B => ∃ L, Q v B.U.heap L ∧ B.locs = P.locs ++ L ∧ B.cells = P.cells + cc ∧ B.slots = P.slots + ss)) (hsz : Ls.size = nl) {a : Addr} (hE : Exa Z h a C) {argsL rest : List Value} {ps : List FieldType} {r : Option FieldType} (hpd : parseMethodDescriptor y.desc = some ⟨ps, r⟩) (hlen : argsL.length = ps.length) (hst : st = argsL.reverse ++ .ref a :: rest) (hW : (rest.map fun v => v.category).sum ≤ W)
    (hd : decode B pc = .ok (.invokevirtual index, 3)) (hp : pc + 3 = pc') (hargs : (.ref a :: argsL).toArray = as') (eT : T.heap = h) (hc : cells + cc ≤ R.cells) (hs : slots + ss ≤ R.slots)
    (k : ∀ (v : Option Value) (T' : State) (h' : Heap) (L : List Loc), Stand p l e R s m args below meth c T' (locs ++ L) (cells + cc) (slots + ss) → T'.heap = h' → Q v h' L → own_E p.tables e below G (T'.setTop (mkF m pc' Ls (v.toList ++ rest)))) : own_E p.tables e below G (T.setTop (mkF m pc Ls st)) := by
  subst hp
  obtain ⟨cq, kq, qa, qb, qc⟩ := isOf hZ eT hE
  obtain ⟨v, vm₁, ⟨T', L', k', n'⟩, -, X', ⟨L, hQ, q1, q2, q3⟩, stp⟩ := X.virtualBack hx hown (mvT hZ w1) (mvT hZ w2) hnf (mvT hZ w3) (mvT hZ w4) hy hK qa qc (g := mkF m pc Ls st) rfl (by rw [hml]; exact hsz) (Steps.refl _) (argsL := argsL) (rest := rest) (lenOf hpd hlen) hst (by show 2 * 0 + _ ≤ _; rw [Nat.mul_zero, Nat.zero_add]; exact hW) (hb hby hd) (fun _ _ => ⟨hargs, eT, hc, hs⟩)
  dsimp only at X' hQ q1 q2 q3 stp
  subst q1 q2 q3
  exact own_tr stp (k v T' _ L X' rfl hQ)
theorem own_priv (X : Stand p l e R s m args below meth c T locs cells slots) (hx : p.tables.exec = Jvm.exec) (hby : c.code = B) {Z : State} {a0 : Array Value} {h : Heap} {own : String} {index nl : Nat} {as' : Array Value} {W cc ss : Nat} {Q : Option Value → Heap → List Loc → Prop} {y : MethodName} {bytes : ByteArray} {maxL : Nat} {ret : Option FieldType} (hml : c.maxLocals = nl) (hZ : Z.Warmed39 s.vm) (hown : s.vm.findClass own = some m.cls)
    (w1 : (Cond.methodLink own index y).before a0 Z = true) (w2 : (Cond.instanceMethod y).before a0 Z = true) (w3 : (Cond.selects y.cls y y).before a0 Z = true) (w5 : (Cond.privateMethod y).before a0 Z = true) (w4 : (Cond.code y bytes maxL ret).before a0 Z = true) (hy : y.cls ≠ "java/lang/invoke/MethodHandle" ∧ y.cls ≠ "java/lang/invoke/VarHandle")
    (hK : Back l R p e below s args y 3 W (fun P a => a = as' ∧ P.U.heap = h ∧ P.cells + cc ≤ R.cells ∧ P.slots + ss ≤ R.slots) (fun P _ v B => ∃ L, Q v B.U.heap L ∧ B.locs = P.locs ++ L ∧ B.cells = P.cells + cc ∧ B.slots = P.slots + ss)) (hsz : Ls.size = nl) {a : Addr} {C : String} (hE : Exa Z h a C) {argsL rest : List Value} {ps : List FieldType} {r : Option FieldType} (hpd : parseMethodDescriptor y.desc = some ⟨ps, r⟩) (hlen : argsL.length = ps.length) (hst : st = argsL.reverse ++ .ref a :: rest) (hW : (rest.map fun v => v.category).sum ≤ W)
    (hd : decode B pc = .ok (.invokevirtual index, 3)) (hp : pc + 3 = pc') (hargs : (.ref a :: argsL).toArray = as') (eT : T.heap = h) (hc : cells + cc ≤ R.cells) (hs : slots + ss ≤ R.slots)
    (k : ∀ (v : Option Value) (T' : State) (h' : Heap) (L : List Loc), Stand p l e R s m args below meth c T' (locs ++ L) (cells + cc) (slots + ss) → T'.heap = h' → Q v h' L → own_E p.tables e below G (T'.setTop (mkF m pc' Ls (v.toList ++ rest)))) : own_E p.tables e below G (T.setTop (mkF m pc Ls st)) := by
  subst hp
  obtain ⟨cq, qa, qb⟩ := hE.cell
  obtain ⟨v, vm₁, ⟨T', L', k', n'⟩, -, X', ⟨L, hQ, q1, q2, q3⟩, stp⟩ := X.privateBack hx hown (mvT hZ w1) (mvT hZ w2) (mvT hZ w3) (Cond.privateMethod_at (mvP hZ w5 (args := #[]))) (mvT hZ w4) hy hK (g := mkF m pc Ls st) rfl (by rw [hml]; exact hsz) (Steps.refl _) (a := a) (by rw [eT]; exact qa) qb (argsL := argsL) (rest := rest) (lenOf hpd hlen) hst (by show 2 * 0 + _ ≤ _; rw [Nat.mul_zero, Nat.zero_add]; exact hW) (hb hby hd) (fun _ _ => ⟨hargs, eT, hc, hs⟩)
  dsimp only at X' hQ q1 q2 q3 stp
  subst q1 q2 q3
  exact own_tr stp (k v T' _ L X' rfl hQ)
theorem own_intf (X : Stand p l e R s m args below meth c T locs cells slots) (hx : p.tables.exec = Jvm.exec) (hby : c.code = B) {Z : State} {a0 : Array Value} {h : Heap} {own : String} {index nl : Nat} {as' : Array Value} {W cc ss : Nat} {Q : Option Value → Heap → List Loc → Prop} {C : String} {y z : MethodName} {cnt : Nat} (hml : c.maxLocals = nl) (hZ : Z.Warmed39 s.vm) (hown : s.vm.findClass own = some m.cls)
    (w1 : (Cond.methodLink own index y).before args s = true) (w2 : (Cond.declares y).before args s = true) (w5 : (Cond.interfaceMethod y.cls y.cls y.name y.desc).before args s = true) (w3 : (Cond.selects C y z).before args s = true) (w4 : (Cond.instanceMethod z).before args s = true) (w6 : (Cond.publicMethod z).before args s = true) (w7 : (Cond.unhidden C y.name y.desc).before args s = true) (w8 : (Cond.castable C y.cls).before args s = true) (hy : y.cls ≠ "java/lang/invoke/MethodHandle" ∧ y.cls ≠ "java/lang/invoke/VarHandle")
    (hK : Back l R p e below s args z 5 W (fun P a => a = as' ∧ P.U.heap = h ∧ P.cells + cc ≤ R.cells ∧ P.slots + ss ≤ R.slots) (fun P _ v B => ∃ L, Q v B.U.heap L ∧ B.locs = P.locs ++ L ∧ B.cells = P.cells + cc ∧ B.slots = P.slots + ss)) (hsz : Ls.size = nl) {a : Addr} (hE : Exa Z h a C) {argsL rest : List Value} {ps : List FieldType} {r : Option FieldType} (hpd : parseMethodDescriptor y.desc = some ⟨ps, r⟩) (hlen : argsL.length = ps.length) (hst : st = argsL.reverse ++ .ref a :: rest) (hW : (rest.map fun v => v.category).sum ≤ W)
    (hd : decode B pc = .ok (.invokeinterface index cnt, 5)) (hp : pc + 5 = pc') (hargs : (.ref a :: argsL).toArray = as') (eT : T.heap = h) (hc : cells + cc ≤ R.cells) (hs : slots + ss ≤ R.slots)
    (k : ∀ (v : Option Value) (T' : State) (h' : Heap) (L : List Loc), Stand p l e R s m args below meth c T' (locs ++ L) (cells + cc) (slots + ss) → T'.heap = h' → Q v h' L → own_E p.tables e below G (T'.setTop (mkF m pc' Ls (v.toList ++ rest)))) : own_E p.tables e below G (T.setTop (mkF m pc Ls st)) := by
  subst hp
  obtain ⟨cq, kq, qa, qb, qc⟩ := isOf hZ eT hE
  obtain ⟨v, vm₁, ⟨T', L', k', n'⟩, -, X', ⟨L, hQ, q1, q2, q3⟩, stp⟩ := X.interfaceBack hx hown w1 w2 w5 w3 w4 w6 w7 w8 hy hK qa qb qc (g := mkF m pc Ls st) rfl (by rw [hml]; exact hsz) (Steps.refl _) (argsL := argsL) (rest := rest) (lenOf hpd hlen) hst (by show 2 * 0 + _ ≤ _; rw [Nat.mul_zero, Nat.zero_add]; exact hW) (hb hby hd) (fun _ _ => ⟨hargs, eT, hc, hs⟩)
  dsimp only at X' hQ q1 q2 q3 stp
  subst q1 q2 q3
  exact own_tr stp (k v T' _ L X' rfl hQ)
end OwnSteps

section OwnHeap
variable {p : Program} {l : Launch} {e : Env} {R : Room} {s : State} {m : MethodId} {args : Array Value} {below : List Frame} {meth : Method} {c : Code} {T : State} {locs : List Loc} {cells slots : Nat} {G : State → Outcome → Prop} {B : ByteArray} {pc pc' : Nat} {Ls Ls' : Array Slot} {st : List Value} {Z : State} {a0 : Array Value} {h h' h'' : Heap}
theorem own_xr : Ext h h := ⟨Nat.le_refl _, fun _ _ q => q⟩
theorem own_xt (E : Ext h h') (E' : Ext h' h'') : Ext h h'' := ⟨Nat.le_trans E.1 E'.1, fun a c q => E'.2 a c (E.2 a c q)⟩
theorem own_xk {ws : List Addr} (E : Ext h h') (K : Keep h' h'' ws) (q : ∀ x ∈ ws, h.size ≤ x) : Ext h h'' := ⟨Nat.le_trans E.1 K.1, fun a c r => K.2.1 a c (E.2 a c r) fun z => absurd (Array.getElem?_eq_some_iff.mp r).1 (Nat.not_lt.mpr (q a z))⟩
theorem own_xw {a : Addr} {sl : Nat} {v : Value} (E : Ext h h') (W : Wr h' h'' a sl v) (q : h.size ≤ a) : Ext h h'' := own_xk E (Keep.of_wr W) (allS q all0)
theorem own_kx {ws : List Addr} (E : Ext h h') : Keep h h' ws := (Keep.refl h ws).ext E
theorem own_fr1 {k : Nat} {L : List Loc} (N : Fr k L) {a : Addr} {sl : Nat} (q : k ≤ a) : Fr k (L ++ [⟨a, sl⟩]) := N.app fun y hy => by cases List.mem_singleton.mp hy; exact q
/-- a body's contract: called with these arguments over the heap h0 it returns as Q says -/
def own_Met (l : Launch) (Z : State) (x : MethodName) (bytes : ByteArray) (maxL : Nat) (ret : Option FieldType) (rm : Room) (as' : Array Value) (h0 : Heap) (Q : Option Value → Heap → List Loc → Prop) : Prop :=
  ∀ ws : List Jvm.Cond, MetFree l x (head1 (Jvm.Cond.code x bytes maxL ret :: ws) rm) (fun a U => a = as' ∧ Z.Warmed39 U.vm ∧ U.heap = h0) (fun _ _ _ _ _ => True) (fun _ U o U' => ∃ v L, o = .returned v ∧ Q v U'.heap L ∧ FrameEnd U o U' L rm.cells rm.slots)
theorem own_body {x : MethodName} {bytes : ByteArray} {maxL : Nat} {ret : Option FieldType} {rm : Room} {as' : Array Value} {h0 : Heap} {Q : Option Value → Heap → List Loc → Prop} (hpl : plainFor x = true)
    (body : ∀ (p : Program) (e : Env) (s : State) (m : MethodId) (below : List Frame) (meth : Method) (c : Code) (s₁ : State), p.tables.exec = Jvm.exec → c.code = bytes → c.maxLocals = maxL → s.vm.findClass x.cls = some m.cls → meth.name = x.name → meth.locks = false → meth.sig.returnType = ret → Z.Warmed39 s.vm → Stand p l e rm s m as' below meth c s₁ [] 0 0 → s₁.heap = h0 →
      own_E p.tables e below (own_End s below Q rm.cells rm.slots) (s₁.setTop (entryFrame m as' maxL))) : own_Met l Z x bytes maxL ret rm as' h0 Q := by
  intro ws
  refine MetFree.of_bodySF hpl hisR ?_
  intro p e s m args below meth c s₁ Bd hml0 hP hK
  obtain ⟨rfl, hZ, hh⟩ := hP
  obtain ⟨s₂, o, q1, q2, q3, q4⟩ := body p e s m below meth c s₁ Bd.exec Bd.bytes hml0 (findClass_of_methodNamed Bd.named) (name_of_methodNamed Bd.named Bd.method).1 (BodyLoose.notSynchronized Bd) Bd.returns hZ (Stand.of_body Bd) (by rw [← hh, Bd.state]; rfl)
  exact ⟨s₂, o, q1, q2, q3, q4⟩
theorem own_back {y : MethodName} {bytes : ByteArray} {maxL : Nat} {ret : Option FieldType} {rm : Room} {len W : Nat} {as' : Array Value} {Q : Option Value → Heap → List Loc → Prop} (hM : own_Met l Z y bytes maxL ret rm as' h Q)
    (hZ : Z.Warmed39 s.vm) (wc : (Jvm.Cond.code y bytes maxL ret).before a0 Z = true) (wz : (Jvm.Cond.initialized y.cls).before a0 Z = true) (hf : rm.frames + 1 ≤ R.frames) (hl : W + (maxL + 11) + rm.locals ≤ R.locals) :
    Back l R p e below s args y len W (fun A a => a = as' ∧ A.U.heap = h ∧ A.cells + rm.cells ≤ R.cells ∧ A.slots + rm.slots ≤ R.slots)
      (fun A _ v B => ∃ L, Q v B.U.heap L ∧ B.locs = A.locs ++ L ∧ B.cells = A.cells + rm.cells ∧ B.slots = A.slots + rm.slots) := backOf (hM []) hZ wc wz hf hl
theorem own_enter {m : MethodId} {A : Array Value} {ml : Nat} {Ls : Array Slot} (ef : entryFrame m A ml = mkF m 0 Ls []) (k : own_E p.tables e below G (T.setTop (mkF m 0 Ls []))) : own_E p.tables e below G (T.setTop (entryFrame m A ml)) := own_go (fun _ q => castTop ef q) k
theorem own_callM (X : Stand p l e R s m args below meth c T locs cells slots) (hx : p.tables.exec = Jvm.exec) (hby : c.code = B) {own : String} {index nl : Nat} {as' : Array Value} {cc ss maxL : Nat} {bytes : ByteArray} {ret : Option FieldType} {rm : Room} {Q : Option Value → Heap → List Loc → Prop} {y : MethodName} (hml : c.maxLocals = nl) (hZ : Z.Warmed39 s.vm) (hown : s.vm.findClass own = some m.cls) (w1 : (Jvm.Cond.methodLink own index y).before a0 Z = true) (w2 : (Jvm.Cond.static y).before a0 Z = true) (w3 : (Jvm.Cond.initialized y.cls).before a0 Z = true) (w4 : (Jvm.Cond.code y bytes maxL ret).before a0 Z = true) (hy : y.cls ≠ "java/lang/invoke/MethodHandle" ∧ y.cls ≠ "java/lang/invoke/VarHandle")
    (hM : own_Met l Z y bytes maxL ret rm as' h Q) (W : Nat) (hcc : rm.cells = cc) (hss : rm.slots = ss) (hf : rm.frames + 1 ≤ R.frames) (hl : W + (maxL + 11) + rm.locals ≤ R.locals) (hsz : Ls.size = nl) {argsL rest : List Value} {ps : List FieldType} {r : Option FieldType} (hpd : parseMethodDescriptor y.desc = some ⟨ps, r⟩) (hlen : argsL.length = ps.length) (hst : st = argsL.reverse ++ rest) (hW : (rest.map fun v => v.category).sum ≤ W) (hd : decode B pc = .ok (.invokestatic index, 3)) (hp : pc + 3 = pc') (hargs : argsL.toArray = as') (eT : T.heap = h) (hc : cells + cc ≤ R.cells) (hs : slots + ss ≤ R.slots)
    (k : ∀ (v : Option Value) (T' : State) (h' : Heap) (L : List Loc), Stand p l e R s m args below meth c T' (locs ++ L) (cells + cc) (slots + ss) → T'.heap = h' → Q v h' L → own_E p.tables e below G (T'.setTop (mkF m pc' Ls (v.toList ++ rest)))) : own_E p.tables e below G (T.setTop (mkF m pc Ls st)) := by
  subst hcc hss
  exact own_callS X hx hby hml hZ hown w1 w2 w3 w4 hy (own_back hM hZ w4 w3 hf hl) hsz hpd hlen hst hW hd hp hargs eT hc hs k
theorem own_specM (X : Stand p l e R s m args below meth c T locs cells slots) (hx : p.tables.exec = Jvm.exec) (hby : c.code = B) {own : String} {index nl : Nat} {as' : Array Value} {cc ss maxL : Nat} {bytes : ByteArray} {rm : Room} {Q : Option Value → Heap → List Loc → Prop} {y : MethodName} (hml : c.maxLocals = nl) (hZ : Z.Warmed39 s.vm) (hown : s.vm.findClass own = some m.cls) (hy1 : y.name = "<init>") (w1 : (Jvm.Cond.methodLink own index y).before a0 Z = true) (w2 : (Jvm.Cond.instanceMethod y).before a0 Z = true) (w3 : (Jvm.Cond.initialized y.cls).before a0 Z = true) (w4 : (Jvm.Cond.code y bytes maxL none).before a0 Z = true) (hy : y.cls ≠ "java/lang/invoke/MethodHandle" ∧ y.cls ≠ "java/lang/invoke/VarHandle")
    (hM : own_Met l Z y bytes maxL none rm as' h Q) (W : Nat) (hcc : rm.cells = cc) (hss : rm.slots = ss) (hf : rm.frames + 1 ≤ R.frames) (hl : W + (maxL + 11) + rm.locals ≤ R.locals) (hsz : Ls.size = nl) {a : Addr} {argsL rest : List Value} {ps : List FieldType} {r : Option FieldType} (hpd : parseMethodDescriptor y.desc = some ⟨ps, r⟩) (hlen : argsL.length = ps.length) (hst : st = argsL.reverse ++ .ref a :: rest) (hW : (rest.map fun v => v.category).sum ≤ W) (hd : decode B pc = .ok (.invokespecial index, 3)) (hp : pc + 3 = pc') (hargs : (.ref a :: argsL).toArray = as') (eT : T.heap = h) (hc : cells + cc ≤ R.cells) (hs : slots + ss ≤ R.slots)
    (k : ∀ (v : Option Value) (T' : State) (h' : Heap) (L : List Loc), Stand p l e R s m args below meth c T' (locs ++ L) (cells + cc) (slots + ss) → T'.heap = h' → Q v h' L → own_E p.tables e below G (T'.setTop (mkF m pc' Ls (v.toList ++ rest)))) : own_E p.tables e below G (T.setTop (mkF m pc Ls st)) := by
  subst hcc hss
  exact own_spec X hx hby hml hZ hown hy1 w1 w2 w4 hy (own_back hM hZ w4 w3 hf hl) hsz hpd hlen hst hW hd hp hargs eT hc hs k
theorem own_virtM (X : Stand p l e R s m args below meth c T locs cells slots) (hx : p.tables.exec = Jvm.exec) (hby : c.code = B) {own : String} {index nl : Nat} {as' : Array Value} {cc ss maxL : Nat} {bytes : ByteArray} {ret : Option FieldType} {rm : Room} {Q : Option Value → Heap → List Loc → Prop} {C : String} {y z : MethodName} (hml : c.maxLocals = nl) (hZ : Z.Warmed39 s.vm) (hown : s.vm.findClass own = some m.cls) (w1 : (Jvm.Cond.methodLink own index y).before a0 Z = true) (w2 : (Jvm.Cond.declares y).before a0 Z = true) (hnf : NotFace s y) (w5 : (Jvm.Cond.selects C y z).before a0 Z = true) (w6 : (Jvm.Cond.instanceMethod z).before a0 Z = true) (w3 : (Jvm.Cond.initialized z.cls).before a0 Z = true) (w4 : (Jvm.Cond.code z bytes maxL ret).before a0 Z = true) (hy : y.cls ≠ "java/lang/invoke/MethodHandle" ∧ y.cls ≠ "java/lang/invoke/VarHandle")
    (hM : own_Met l Z z bytes maxL ret rm as' h Q) (W : Nat) (hcc : rm.cells = cc) (hss : rm.slots = ss) (hf : rm.frames + 1 ≤ R.frames) (hl : W + (maxL + 11) + rm.locals ≤ R.locals) (hsz : Ls.size = nl) {a : Addr} (hE : Exa Z h a C) {argsL rest : List Value} {ps : List FieldType} {r : Option FieldType} (hpd : parseMethodDescriptor y.desc = some ⟨ps, r⟩) (hlen : argsL.length = ps.length) (hst : st = argsL.reverse ++ .ref a :: rest) (hW : (rest.map fun v => v.category).sum ≤ W) (hd : decode B pc = .ok (.invokevirtual index, 3)) (hp : pc + 3 = pc') (hargs : (.ref a :: argsL).toArray = as') (eT : T.heap = h) (hc : cells + cc ≤ R.cells) (hs : slots + ss ≤ R.slots)
    (k : ∀ (v : Option Value) (T' : State) (h' : Heap) (L : List Loc), Stand p l e R s m args below meth c T' (locs ++ L) (cells + cc) (slots + ss) → T'.heap = h' → Q v h' L → own_E p.tables e below G (T'.setTop (mkF m pc' Ls (v.toList ++ rest)))) : own_E p.tables e below G (T.setTop (mkF m pc Ls st)) := by
  subst hcc hss
  exact own_virt X hx hby hml hZ hown w1 w2 hnf w5 w6 hy (own_back hM hZ w4 w3 hf hl) hsz hE hpd hlen hst hW hd hp hargs eT hc hs k
theorem own_privM (X : Stand p l e R s m args below meth c T locs cells slots) (hx : p.tables.exec = Jvm.exec) (hby : c.code = B) {own : String} {index nl : Nat} {as' : Array Value} {cc ss maxL : Nat} {bytes : ByteArray} {ret : Option FieldType} {rm : Room} {Q : Option Value → Heap → List Loc → Prop} {C : String} {y : MethodName} (hml : c.maxLocals = nl) (hZ : Z.Warmed39 s.vm) (hown : s.vm.findClass own = some m.cls) (w1 : (Jvm.Cond.methodLink own index y).before a0 Z = true) (w6 : (Jvm.Cond.instanceMethod y).before a0 Z = true) (w5 : (Jvm.Cond.selects y.cls y y).before a0 Z = true) (w7 : (Jvm.Cond.privateMethod y).before a0 Z = true) (w3 : (Jvm.Cond.initialized y.cls).before a0 Z = true) (w4 : (Jvm.Cond.code y bytes maxL ret).before a0 Z = true) (hy : y.cls ≠ "java/lang/invoke/MethodHandle" ∧ y.cls ≠ "java/lang/invoke/VarHandle")
    (hM : own_Met l Z y bytes maxL ret rm as' h Q) (W : Nat) (hcc : rm.cells = cc) (hss : rm.slots = ss) (hf : rm.frames + 1 ≤ R.frames) (hl : W + (maxL + 11) + rm.locals ≤ R.locals) (hsz : Ls.size = nl) {a : Addr} (hE : Exa Z h a C) {argsL rest : List Value} {ps : List FieldType} {r : Option FieldType} (hpd : parseMethodDescriptor y.desc = some ⟨ps, r⟩) (hlen : argsL.length = ps.length) (hst : st = argsL.reverse ++ .ref a :: rest) (hW : (rest.map fun v => v.category).sum ≤ W) (hd : decode B pc = .ok (.invokevirtual index, 3)) (hp : pc + 3 = pc') (hargs : (.ref a :: argsL).toArray = as') (eT : T.heap = h) (hc : cells + cc ≤ R.cells) (hs : slots + ss ≤ R.slots)
    (k : ∀ (v : Option Value) (T' : State) (h' : Heap) (L : List Loc), Stand p l e R s m args below meth c T' (locs ++ L) (cells + cc) (slots + ss) → T'.heap = h' → Q v h' L → own_E p.tables e below G (T'.setTop (mkF m pc' Ls (v.toList ++ rest)))) : own_E p.tables e below G (T.setTop (mkF m pc Ls st)) := by
  subst hcc hss
  exact own_priv X hx hby hml hZ hown w1 w6 w5 w7 w4 hy (own_back hM hZ w4 w3 hf hl) hsz hE hpd hlen hst hW hd hp hargs eT hc hs k
theorem own_intfM (X : Stand p l e R s m args below meth c T locs cells slots) (hx : p.tables.exec = Jvm.exec) (hby : c.code = B) {own : String} {index nl : Nat} {as' : Array Value} {cc ss maxL : Nat} {bytes : ByteArray} {ret : Option FieldType} {rm : Room} {Q : Option Value → Heap → List Loc → Prop} {C : String} {y z : MethodName} {cnt : Nat} (hml : c.maxLocals = nl) (hZ : Z.Warmed39 s.vm) (hown : s.vm.findClass own = some m.cls) (w1 : (Jvm.Cond.methodLink own index y).before args s = true) (w2 : (Jvm.Cond.declares y).before args s = true) (w5 : (Jvm.Cond.interfaceMethod y.cls y.cls y.name y.desc).before args s = true) (w6 : (Jvm.Cond.selects C y z).before args s = true) (w7 : (Jvm.Cond.instanceMethod z).before args s = true) (w8 : (Jvm.Cond.publicMethod z).before args s = true) (w9 : (Jvm.Cond.unhidden C y.name y.desc).before args s = true) (w10 : (Jvm.Cond.castable C y.cls).before args s = true) (w3 : (Jvm.Cond.initialized z.cls).before a0 Z = true) (w4 : (Jvm.Cond.code z bytes maxL ret).before a0 Z = true) (hy : y.cls ≠ "java/lang/invoke/MethodHandle" ∧ y.cls ≠ "java/lang/invoke/VarHandle")
    (hM : own_Met l Z z bytes maxL ret rm as' h Q) (W : Nat) (hcc : rm.cells = cc) (hss : rm.slots = ss) (hf : rm.frames + 1 ≤ R.frames) (hl : W + (maxL + 11) + rm.locals ≤ R.locals) (hsz : Ls.size = nl) {a : Addr} (hE : Exa Z h a C) {argsL rest : List Value} {ps : List FieldType} {r : Option FieldType} (hpd : parseMethodDescriptor y.desc = some ⟨ps, r⟩) (hlen : argsL.length = ps.length) (hst : st = argsL.reverse ++ .ref a :: rest) (hW : (rest.map fun v => v.category).sum ≤ W) (hd : decode B pc = .ok (.invokeinterface index cnt, 5)) (hp : pc + 5 = pc') (hargs : (.ref a :: argsL).toArray = as') (eT : T.heap = h) (hc : cells + cc ≤ R.cells) (hs : slots + ss ≤ R.slots)
    (k : ∀ (v : Option Value) (T' : State) (h' : Heap) (L : List Loc), Stand p l e R s m args below meth c T' (locs ++ L) (cells + cc) (slots + ss) → T'.heap = h' → Q v h' L → own_E p.tables e below G (T'.setTop (mkF m pc' Ls (v.toList ++ rest)))) : own_E p.tables e below G (T.setTop (mkF m pc Ls st)) := by
  subst hcc hss
  exact own_intf (a0 := a0) X hx hby hml hZ hown w1 w2 w5 w6 w7 w8 w9 w10 hy (own_back hM hZ w4 w3 hf hl) hsz hE hpd hlen hst hW hd hp hargs eT hc hs k
theorem own_newO (X : Stand p l e R s m args below meth c T locs cells slots) (hx : p.tables.exec = Jvm.exec) (hby : c.code = B) (hZ : Z.Warmed39 s.vm) {own C : String} {index n : Nat} (hown : s.vm.findClass own = some m.cls) (w : (Jvm.Cond.classLink own index C).before a0 Z = true) (wi : (Jvm.Cond.instantiable C n).before a0 Z = true) (wz : (Jvm.Cond.initialized C).before a0 Z = true) (eT : T.heap = h)
    (hd : decode B pc = .ok (.new index, 3)) (hp : pc + 3 = pc') (hc : cells + 1 ≤ R.cells) (hl : slots + n ≤ R.slots)
    (k : ∀ (T' : State) (h' : Heap) (b : Addr), b = h.size → Stand p l e R s m args below meth c T' locs (cells + 1) (slots + n) → T'.heap = h' → Ext h h' → Exa Z h' b C → (∀ {O nm d : String} {ty : FieldType}, Laid Z a0 C O nm d → parseFieldDescriptor d = some ty → Fld Z h' b O nm d (defaultValue ty)) → own_E p.tables e below G (T'.setTop (mkF m pc' Ls (.ref b :: st)))) : own_E p.tables e below G (T.setTop (mkF m pc Ls (st))) := by
  subst hp
  obtain ⟨T', h', X', e', E', A', D', -, stp⟩ := newO X hx hZ hown w wi wz eT (g := mkF m pc Ls st) rfl (hb hby hd) hc hl
  exact own_go stp (k T' h' _ rfl X' e' E' A' D')
theorem own_newP (X : Stand p l e R s m args below meth c T locs cells slots) (hx : p.tables.exec = Jvm.exec) (hby : c.code = B) (hZ : Z.Warmed39 s.vm) {aty : ArrayType} (w : (Jvm.Cond.arrayClass (newarray.typeOf aty)).before a0 Z = true) (eT : T.heap = h) {n : Int32} {cap : Nat} (hd : decode B pc = .ok (.newarray aty, 2)) (hp : pc + 2 = pc') (hn : ¬ n < 0) (hcap : n.toNatClampNeg ≤ cap) (hbig : cap * 8 ≤ 536870912) (hc : cells + 1 ≤ R.cells) (hl : slots + cap ≤ R.slots)
    (k : ∀ (T' : State) (h' : Heap) (b : Addr) (kA : ClassId), b = h.size → Stand p l e R s m args below meth c T' locs (cells + 1) (slots + cap) → T'.heap = h' → Ext h h' → Arv Z h' b kA (newarray.typeOf aty) n [] (defaultValue (newarray.typeOf aty)) → own_E p.tables e below G (T'.setTop (mkF m pc' Ls (.ref b :: st)))) : own_E p.tables e below G (T.setTop (mkF m pc Ls (.int n :: st))) := by
  subst hp
  obtain ⟨T', h', kA, X', e', E', A', stp⟩ := newP X hx hZ w eT (g := mkF m pc Ls (.int n :: st)) rfl (hb hby hd) rfl hn hcap hbig hc hl
  exact own_go stp (k T' h' _ kA rfl X' e' E' (Arv.new A' hn))
theorem own_newR (X : Stand p l e R s m args below meth c T locs cells slots) (hx : p.tables.exec = Jvm.exec) (hby : c.code = B) (hZ : Z.Warmed39 s.vm) {own C : String} {index : Nat} (hown : s.vm.findClass own = some m.cls) (w1 : (Jvm.Cond.classLink own index C).before a0 Z = true) (w2 : (Jvm.Cond.arrayOver (.object C)).before a0 Z = true) (eT : T.heap = h) {n : Int32} {cap : Nat} (hd : decode B pc = .ok (.anewarray index, 3)) (hp : pc + 3 = pc') (hn : ¬ n < 0) (hcap : n.toNatClampNeg ≤ cap) (hbig : cap * 8 ≤ 536870912) (hc : cells + 1 ≤ R.cells) (hl : slots + cap ≤ R.slots)
    (k : ∀ (T' : State) (h' : Heap) (b : Addr) (kA : ClassId), b = h.size → Stand p l e R s m args below meth c T' locs (cells + 1) (slots + cap) → T'.heap = h' → Ext h h' → Arv Z h' b kA (.object C) n [] .null → Ovr Z kA C → own_E p.tables e below G (T'.setTop (mkF m pc' Ls (.ref b :: st)))) : own_E p.tables e below G (T.setTop (mkF m pc Ls (.int n :: st))) := by
  subst hp
  obtain ⟨T', h', kA, X', e', E', A', O', stp⟩ := newR X hx hZ hown w1 w2 eT (g := mkF m pc Ls (.int n :: st)) rfl (hb hby hd) rfl hn hcap hbig hc hl
  exact own_go stp (k T' h' _ kA rfl X' e' E' (Arv.new A' hn) O')
theorem own_getF (X : Stand p l e R s m args below meth c T locs cells slots) (hx : p.tables.exec = Jvm.exec) (hby : c.code = B) (hZ : Z.Warmed39 s.vm) {own R0 O n d host : String} {index : Nat} (hown : s.vm.findClass own = some m.cls) (w : (Jvm.Cond.fieldLink own index R0 n d).before a0 Z = true ∨ (Jvm.Cond.fieldLinkNest own index R0 n d host).before a0 Z = true) (via : Via Z R0 O n d) (eT : T.heap = h) {a : Addr} {v : Value} (F : Fld Z h a O n d v) (hd : decode B pc = .ok (.getfield index, 3)) (hp : pc + 3 = pc')
    (k : ∀ T' : State, Stand p l e R s m args below meth c T' locs cells slots → T'.heap = h → own_E p.tables e below G (T'.setTop (mkF m pc' Ls (v :: st)))) : own_E p.tables e below G (T.setTop (mkF m pc Ls (.ref a :: st))) := by
  subst hp
  obtain ⟨T', X', e', stp⟩ := getF X hx hZ hown w via eT F (g := mkF m pc Ls (.ref a :: st)) rfl rfl (hb hby hd)
  exact own_go stp (k T' X' e')
theorem own_getS (X : Stand p l e R s m args below meth c T locs cells slots) (hx : p.tables.exec = Jvm.exec) (hby : c.code = B) (hZ : Z.Warmed39 s.vm) {own R0 O n d host : String} {index : Nat} (hown : s.vm.findClass own = some m.cls) (w : (Jvm.Cond.fieldLink own index R0 n d).before a0 Z = true ∨ (Jvm.Cond.fieldLinkNest own index R0 n d host).before a0 Z = true) (via : Via Z R0 O n d) (eT : T.heap = h) {v : Value} (F : Sta Z h O n d v) (hd : decode B pc = .ok (.getstatic index, 3)) (hp : pc + 3 = pc')
    (k : ∀ T' : State, Stand p l e R s m args below meth c T' locs cells slots → T'.heap = h → own_E p.tables e below G (T'.setTop (mkF m pc' Ls (v :: st)))) : own_E p.tables e below G (T.setTop (mkF m pc Ls (st))) := by
  subst hp
  obtain ⟨T', X', e', stp⟩ := getS2 X hx hZ hown w via eT F (g := mkF m pc Ls st) rfl (hb hby hd)
  exact own_go stp (k T' X' e')
theorem own_putF (X : Stand p l e R s m args below meth c T locs cells slots) (hx : p.tables.exec = Jvm.exec) (hby : c.code = B) (hZ : Z.Warmed39 s.vm) {own R0 O n d host C : String} {index kk : Nat} {ty : FieldType} (hown : s.vm.findClass own = some m.cls) (w : (Jvm.Cond.fieldLink own index R0 n d).before a0 Z = true ∨ (Jvm.Cond.fieldLinkNest own index R0 n d host).before a0 Z = true) (via : Via Z R0 O n d) (eT : T.heap = h) {a : Addr} {v old : Value} (F : Fld Z h a O n d old) (A : Exa Z h a C)
    (L : (Jvm.Cond.lays C O n d).before a0 Z = true ∨ ((Jvm.Cond.laysFinal C O n d).before a0 Z = true ∧ own = O ∧ meth.name = "<init>")) (wi : (Jvm.Cond.instantiable C kk).before a0 Z = true) (hty : parseFieldDescriptor d = some ty) (hn : narrow ty v = v) (hf : fits ty v = true) (hd : decode B pc = .ok (.putfield index, 3)) (hp : pc + 3 = pc')
    (k : ∀ (T' : State) (h' : Heap), Stand p l e R s m args below meth c T' (locs ++ [⟨a, Jvm.RoadKit.slotOf Z O n d⟩]) cells slots → T'.heap = h' → Wr h h' a (Jvm.RoadKit.slotOf Z O n d) v → Fld Z h' a O n d v → Exa Z h' a C → own_E p.tables e below G (T'.setTop (mkF m pc' Ls (st)))) : own_E p.tables e below G (T.setTop (mkF m pc Ls (v :: .ref a :: st))) := by
  subst hp
  obtain ⟨T', h', X', e', W', stp⟩ := putF X hx hZ hown w via eT F A L wi hty hn hf (g := mkF m pc Ls (v :: .ref a :: st)) rfl rfl (hb hby hd)
  exact own_go stp (k T' h' X' e' W' (F.same W') (A.wr W'))
theorem own_putFN (X : Stand p l e R s m args below meth c T locs cells slots) (hx : p.tables.exec = Jvm.exec) (hby : c.code = B) (hZ : Z.Warmed39 s.vm) {own R0 O n d C : String} {index kk : Nat} {ty : FieldType} (hown : s.vm.findClass own = some m.cls) (w : (Jvm.Cond.fieldLink own index R0 n d).before a0 Z = true) (via : Via Z R0 O n d) (eT : T.heap = h) {a : Addr} {v v' old : Value} (F : Fld Z h a O n d old) (A : Exa Z h a C)
    (L : (Jvm.Cond.lays C O n d).before a0 Z = true ∨ ((Jvm.Cond.laysFinal C O n d).before a0 Z = true ∧ own = O ∧ meth.name = "<init>")) (wi : (Jvm.Cond.instantiable C kk).before a0 Z = true) (hty : parseFieldDescriptor d = some ty) (hn : narrow ty v = v') (hf : fits ty v' = true) (hd : decode B pc = .ok (.putfield index, 3)) (hp : pc + 3 = pc')
    (k : ∀ (T' : State) (h' : Heap), Stand p l e R s m args below meth c T' (locs ++ [⟨a, Jvm.RoadKit.slotOf Z O n d⟩]) cells slots → T'.heap = h' → Wr h h' a (Jvm.RoadKit.slotOf Z O n d) v' → Fld Z h' a O n d v' → Exa Z h' a C → own_E p.tables e below G (T'.setTop (mkF m pc' Ls (st)))) : own_E p.tables e below G (T.setTop (mkF m pc Ls (v :: .ref a :: st))) := by
  subst hp
  obtain ⟨T', h', X', e', W', stp⟩ := putFN X hx hZ hown w via eT F A L wi hty hn hf (g := mkF m pc Ls (v :: .ref a :: st)) rfl rfl (hb hby hd)
  exact own_go stp (k T' h' X' e' W' (F.same W') (A.wr W'))
theorem own_initO (X : Stand p l e R s m args below meth c T locs cells slots) (hx : p.tables.exec = Jvm.exec) (hby : c.code = B) (hZ : Z.Warmed39 s.vm) {own : String} {idx nl W : Nat} (hml : c.maxLocals = nl) (hown : s.vm.findClass own = some m.cls) (w1 : (Jvm.Cond.methodLink own idx Lib.objectInit).before a0 Z = true) (w2 : (Jvm.Cond.instanceMethod Lib.objectInit).before a0 Z = true) (w3 : (Jvm.Cond.code Lib.objectInit ⟨#[0xb1]⟩ 1 none).before a0 Z = true) (eT : T.heap = h) (hsz : Ls.size = nl) {a : Addr} (hd : decode B pc = .ok (.invokespecial idx, 3)) (hp : pc + 3 = pc') (hf : 1 ≤ R.frames) (hW : (st.map fun v => v.category).sum ≤ W) (hl : W + 12 ≤ R.locals)
    (k : ∀ T' : State, Stand p l e R s m args below meth c T' locs cells slots → T'.heap = h → own_E p.tables e below G (T'.setTop (mkF m pc' Ls (st)))) : own_E p.tables e below G (T.setTop (mkF m pc Ls (.ref a :: st))) := by
  subst hp
  obtain ⟨T', X', e', stp⟩ := initO X hx hZ hown w1 w2 w3 eT (g := mkF m pc Ls (.ref a :: st)) rfl (by rw [hml]; exact hsz) rfl (hb hby hd) hf (W := W) (by show 2 * 0 + _ ≤ _; rw [Nat.mul_zero, Nat.zero_add]; exact hW) hl
  exact own_go stp (k T' X' e')
theorem own_ialoadV (X : Stand p l e R s m args below meth c T locs cells slots) (hx : p.tables.exec = Jvm.exec) (hby : c.code = B) (hZ : Z.Warmed39 s.vm) (eT : T.heap = h) {a : Addr} {kA : ClassId} {z j : Int32} {vs : List Value} {dv v : Value} (A : Arv Z h a kA .int z vs dv) (hj : ¬ j < 0 ∧ j < z) (hv : vs.getD j.toNatClampNeg dv = v) (hd : decode B pc = .ok (.iaload, 1)) (hp : pc + 1 = pc')
    (k : own_E p.tables e below G (T.setTop (mkF m pc' Ls (v :: st)))) : own_E p.tables e below G (T.setTop (mkF m pc Ls (.int j :: .ref a :: st))) := by
  subst hp
  obtain ⟨cl, Ar, -, S, -, H, -⟩ := A
  exact own_go (fun t q => X.iaload hx (by rw [eT]; exact Ar.1) (State.isArrayOf_alike hZ.alike Ar.2.1) Ar.2.2 (inb_of S hj) (H.at (inb_of S hj) hv) (g := mkF m pc Ls (.int j :: .ref a :: st)) rfl rfl (hb hby hd) t q) k
theorem own_laloadV (X : Stand p l e R s m args below meth c T locs cells slots) (hx : p.tables.exec = Jvm.exec) (hby : c.code = B) (hZ : Z.Warmed39 s.vm) (eT : T.heap = h) {a : Addr} {kA : ClassId} {z j : Int32} {vs : List Value} {dv v : Value} (A : Arv Z h a kA .long z vs dv) (hj : ¬ j < 0 ∧ j < z) (hv : vs.getD j.toNatClampNeg dv = v) (hd : decode B pc = .ok (.laload, 1)) (hp : pc + 1 = pc')
    (k : own_E p.tables e below G (T.setTop (mkF m pc' Ls (v :: st)))) : own_E p.tables e below G (T.setTop (mkF m pc Ls (.int j :: .ref a :: st))) := by
  subst hp
  obtain ⟨cl, Ar, -, S, -, H, -⟩ := A
  exact own_go (fun t q => X.laload hx (by rw [eT]; exact Ar.1) (State.isArrayOf_alike hZ.alike Ar.2.1) Ar.2.2 (inb_of S hj) (H.at (inb_of S hj) hv) (g := mkF m pc Ls (.int j :: .ref a :: st)) rfl rfl (hb hby hd) t q) k
theorem own_caloadV (X : Stand p l e R s m args below meth c T locs cells slots) (hx : p.tables.exec = Jvm.exec) (hby : c.code = B) (hZ : Z.Warmed39 s.vm) (eT : T.heap = h) {a : Addr} {kA : ClassId} {z j : Int32} {vs : List Value} {dv v : Value} (A : Arv Z h a kA .char z vs dv) (hj : ¬ j < 0 ∧ j < z) (hv : vs.getD j.toNatClampNeg dv = v) (hd : decode B pc = .ok (.caload, 1)) (hp : pc + 1 = pc')
    (k : own_E p.tables e below G (T.setTop (mkF m pc' Ls (v :: st)))) : own_E p.tables e below G (T.setTop (mkF m pc Ls (.int j :: .ref a :: st))) := by
  subst hp
  obtain ⟨cl, Ar, -, S, -, H, -⟩ := A
  exact own_go (fun t q => X.caload hx (by rw [eT]; exact Ar.1) (State.isArrayOf_alike hZ.alike Ar.2.1) Ar.2.2 (inb_of S hj) (H.at (inb_of S hj) hv) (g := mkF m pc Ls (.int j :: .ref a :: st)) rfl rfl (hb hby hd) t q) k
theorem own_baloadV (X : Stand p l e R s m args below meth c T locs cells slots) (hx : p.tables.exec = Jvm.exec) (hby : c.code = B) (hZ : Z.Warmed39 s.vm) (eT : T.heap = h) {a : Addr} {kA : ClassId} {z j : Int32} {vs : List Value} {dv v : Value} (A : Arv Z h a kA .byte z vs dv) (hj : ¬ j < 0 ∧ j < z) (hv : vs.getD j.toNatClampNeg dv = v) (hd : decode B pc = .ok (.baload, 1)) (hp : pc + 1 = pc')
    (k : own_E p.tables e below G (T.setTop (mkF m pc' Ls (v :: st)))) : own_E p.tables e below G (T.setTop (mkF m pc Ls (.int j :: .ref a :: st))) := by
  subst hp
  obtain ⟨cl, Ar, -, S, -, H, -⟩ := A
  exact own_go (fun t q => X.baloadBytes hx (by rw [eT]; exact Ar.1) (State.isArrayOf_alike hZ.alike Ar.2.1) Ar.2.2 (inb_of S hj) (H.at (inb_of S hj) hv) (g := mkF m pc Ls (.int j :: .ref a :: st)) rfl rfl (hb hby hd) t q) k
theorem own_daloadV (X : Stand p l e R s m args below meth c T locs cells slots) (hx : p.tables.exec = Jvm.exec) (hby : c.code = B) (hZ : Z.Warmed39 s.vm) (eT : T.heap = h) {a : Addr} {kA : ClassId} {z j : Int32} {vs : List Value} {dv v : Value} (A : Arv Z h a kA .double z vs dv) (hj : ¬ j < 0 ∧ j < z) (hv : vs.getD j.toNatClampNeg dv = v) (hd : decode B pc = .ok (.daload, 1)) (hp : pc + 1 = pc')
    (k : own_E p.tables e below G (T.setTop (mkF m pc' Ls (v :: st)))) : own_E p.tables e below G (T.setTop (mkF m pc Ls (.int j :: .ref a :: st))) := by
  subst hp
  obtain ⟨cl, Ar, -, S, -, H, -⟩ := A
  exact own_go (fun t q => X.daload hx (by rw [eT]; exact Ar.1) (State.isArrayOf_alike hZ.alike Ar.2.1) Ar.2.2 (inb_of S hj) (H.at (inb_of S hj) hv) (g := mkF m pc Ls (.int j :: .ref a :: st)) rfl rfl (hb hby hd) t q) k
theorem own_aaloadV (X : Stand p l e R s m args below meth c T locs cells slots) (hx : p.tables.exec = Jvm.exec) (hby : c.code = B) (hZ : Z.Warmed39 s.vm) (eT : T.heap = h) {a : Addr} {kA : ClassId} {ty : FieldType} {z j : Int32} {vs : List Value} {dv v : Value} (A : Arv Z h a kA ty z vs dv) (hty : ty.isReference = true) (hj : ¬ j < 0 ∧ j < z) (hv : vs.getD j.toNatClampNeg dv = v) (hd : decode B pc = .ok (.aaload, 1)) (hp : pc + 1 = pc')
    (k : own_E p.tables e below G (T.setTop (mkF m pc' Ls (v :: st)))) : own_E p.tables e below G (T.setTop (mkF m pc Ls (.int j :: .ref a :: st))) := by
  subst hp
  obtain ⟨cl, Ar, -, S, -, H, -⟩ := A
  exact own_go (fun t q => X.aaload hx (by rw [eT]; exact Ar.1) (State.isArrayOf_alike hZ.alike Ar.2.1) hty Ar.2.2 (inb_of S hj) (H.at (inb_of S hj) hv) (g := mkF m pc Ls (.int j :: .ref a :: st)) rfl rfl (hb hby hd) t q) k
theorem own_alenV (X : Stand p l e R s m args below meth c T locs cells slots) (hx : p.tables.exec = Jvm.exec) (hby : c.code = B) (hZ : Z.Warmed39 s.vm) (eT : T.heap = h) {a : Addr} {kA : ClassId} {ty : FieldType} {z : Int32} {vs : List Value} {dv : Value} (A : Arv Z h a kA ty z vs dv) (hd : decode B pc = .ok (.arraylength, 1)) (hp : pc + 1 = pc')
    (k : own_E p.tables e below G (T.setTop (mkF m pc' Ls (.int z :: st)))) : own_E p.tables e below G (T.setTop (mkF m pc Ls (.ref a :: st))) := by
  subst hp
  obtain ⟨cl, Ar, -, S, N, -, -⟩ := A
  refine own_go (fun t q => X.arraylength hx (by rw [eT]; exact Ar.1) (State.isArrayOf_alike hZ.alike Ar.2.1) (g := mkF m pc Ls (.ref a :: st)) rfl rfl (hb hby hd) t ?_) k
  rw [len_of S N]; exact q
theorem own_stI (X : Stand p l e R s m args below meth c T locs cells slots) (hx : p.tables.exec = Jvm.exec) (hby : c.code = B) (hZ : Z.Warmed39 s.vm) (eT : T.heap = h) {a : Addr} {kA : ClassId} {z j : Int32} {vs : List Value} {dv : Value} {x : Int32} (A : Arv Z h a kA .int z vs dv) (hj : ¬ j < 0 ∧ j < z) (i : Nat) (hi : j.toNatClampNeg = i) (hlen : i < vs.length) (hd : decode B pc = .ok (.iastore, 1)) (hp : pc + 1 = pc')
    (k : ∀ (T' : State) (h' : Heap), Stand p l e R s m args below meth c T' (locs ++ [⟨a, j.toNatClampNeg⟩]) cells slots → T'.heap = h' → Wr h h' a j.toNatClampNeg (.int x) → Arv Z h' a kA .int z (vs.set i (.int x)) dv → own_E p.tables e below G (T'.setTop (mkF m pc' Ls (st)))) : own_E p.tables e below G (T.setTop (mkF m pc Ls (.int x :: .int j :: .ref a :: st))) := by
  subst hp
  obtain ⟨cl, Ar, q, S, N, H, F⟩ := A
  obtain ⟨T', h', X', e', W', stp⟩ := stI X hx hZ eT Ar (j := j) (inb_of S hj) (g := mkF m pc Ls (.int x :: .int j :: .ref a :: st)) rfl rfl (hb hby hd)
  exact own_go stp (k T' h' X' e' W' (Arv.set Ar q S N H F rfl W' i hi hlen))
theorem own_stJ (X : Stand p l e R s m args below meth c T locs cells slots) (hx : p.tables.exec = Jvm.exec) (hby : c.code = B) (hZ : Z.Warmed39 s.vm) (eT : T.heap = h) {a : Addr} {kA : ClassId} {z j : Int32} {vs : List Value} {dv : Value} {x : Int64} (A : Arv Z h a kA .long z vs dv) (hj : ¬ j < 0 ∧ j < z) (i : Nat) (hi : j.toNatClampNeg = i) (hlen : i < vs.length) (hd : decode B pc = .ok (.lastore, 1)) (hp : pc + 1 = pc')
    (k : ∀ (T' : State) (h' : Heap), Stand p l e R s m args below meth c T' (locs ++ [⟨a, j.toNatClampNeg⟩]) cells slots → T'.heap = h' → Wr h h' a j.toNatClampNeg (.long x) → Arv Z h' a kA .long z (vs.set i (.long x)) dv → own_E p.tables e below G (T'.setTop (mkF m pc' Ls (st)))) : own_E p.tables e below G (T.setTop (mkF m pc Ls (.long x :: .int j :: .ref a :: st))) := by
  subst hp
  obtain ⟨cl, Ar, q, S, N, H, F⟩ := A
  obtain ⟨T', h', X', e', W', stp⟩ := stJ X hx hZ eT Ar (j := j) (inb_of S hj) (g := mkF m pc Ls (.long x :: .int j :: .ref a :: st)) rfl rfl (hb hby hd)
  exact own_go stp (k T' h' X' e' W' (Arv.set Ar q S N H F rfl W' i hi hlen))
theorem own_stC (X : Stand p l e R s m args below meth c T locs cells slots) (hx : p.tables.exec = Jvm.exec) (hby : c.code = B) (hZ : Z.Warmed39 s.vm) (eT : T.heap = h) {a : Addr} {kA : ClassId} {z j : Int32} {vs : List Value} {dv : Value} {x : Int32} (A : Arv Z h a kA .char z vs dv) (hj : ¬ j < 0 ∧ j < z) (i : Nat) (hi : j.toNatClampNeg = i) (hlen : i < vs.length) (hd : decode B pc = .ok (.castore, 1)) (hp : pc + 1 = pc')
    (k : ∀ (T' : State) (h' : Heap), Stand p l e R s m args below meth c T' (locs ++ [⟨a, j.toNatClampNeg⟩]) cells slots → T'.heap = h' → Wr h h' a j.toNatClampNeg (.int (nar .char x)) → Arv Z h' a kA .char z (vs.set i (.int (nar .char x))) dv → own_E p.tables e below G (T'.setTop (mkF m pc' Ls (st)))) : own_E p.tables e below G (T.setTop (mkF m pc Ls (.int x :: .int j :: .ref a :: st))) := by
  subst hp
  obtain ⟨cl, Ar, q, S, N, H, F⟩ := A
  obtain ⟨T', h', X', e', W', stp⟩ := stC X hx hZ eT Ar (j := j) (inb_of S hj) (g := mkF m pc Ls (.int x :: .int j :: .ref a :: st)) rfl rfl (hb hby hd)
  exact own_go stp (k T' h' X' e' W' (Arv.set Ar q S N H F (fits_nar_char _) W' i hi hlen))
theorem own_stB (X : Stand p l e R s m args below meth c T locs cells slots) (hx : p.tables.exec = Jvm.exec) (hby : c.code = B) (hZ : Z.Warmed39 s.vm) (eT : T.heap = h) {a : Addr} {kA : ClassId} {z j : Int32} {vs : List Value} {dv : Value} {x : Int32} (A : Arv Z h a kA .byte z vs dv) (hj : ¬ j < 0 ∧ j < z) (i : Nat) (hi : j.toNatClampNeg = i) (hlen : i < vs.length) (hd : decode B pc = .ok (.bastore, 1)) (hp : pc + 1 = pc')
    (k : ∀ (T' : State) (h' : Heap), Stand p l e R s m args below meth c T' (locs ++ [⟨a, j.toNatClampNeg⟩]) cells slots → T'.heap = h' → Wr h h' a j.toNatClampNeg (.int (nar .byte x)) → Arv Z h' a kA .byte z (vs.set i (.int (nar .byte x))) dv → own_E p.tables e below G (T'.setTop (mkF m pc' Ls (st)))) : own_E p.tables e below G (T.setTop (mkF m pc Ls (.int x :: .int j :: .ref a :: st))) := by
  subst hp
  obtain ⟨cl, Ar, q, S, N, H, F⟩ := A
  obtain ⟨T', h', X', e', W', stp⟩ := stB X hx hZ eT Ar (j := j) (inb_of S hj) (g := mkF m pc Ls (.int x :: .int j :: .ref a :: st)) rfl rfl (hb hby hd)
  exact own_go stp (k T' h' X' e' W' (Arv.set Ar q S N H F (fits_nar_byte _) W' i hi hlen))
theorem own_stZ (X : Stand p l e R s m args below meth c T locs cells slots) (hx : p.tables.exec = Jvm.exec) (hby : c.code = B) (hZ : Z.Warmed39 s.vm) (eT : T.heap = h) {a : Addr} {kA : ClassId} {z j : Int32} {vs : List Value} {dv : Value} {x : Int32} (A : Arv Z h a kA .boolean z vs dv) (hj : ¬ j < 0 ∧ j < z) (i : Nat) (hi : j.toNatClampNeg = i) (hlen : i < vs.length) (hd : decode B pc = .ok (.bastore, 1)) (hp : pc + 1 = pc')
    (k : ∀ (T' : State) (h' : Heap), Stand p l e R s m args below meth c T' (locs ++ [⟨a, j.toNatClampNeg⟩]) cells slots → T'.heap = h' → Wr h h' a j.toNatClampNeg (.int (nar .boolean x)) → Arv Z h' a kA .boolean z (vs.set i (.int (nar .boolean x))) dv → own_E p.tables e below G (T'.setTop (mkF m pc' Ls (st)))) : own_E p.tables e below G (T.setTop (mkF m pc Ls (.int x :: .int j :: .ref a :: st))) := by
  subst hp
  obtain ⟨cl, Ar, q, S, N, H, F⟩ := A
  obtain ⟨T', h', X', e', W', stp⟩ := stZ X hx hZ eT Ar (j := j) (inb_of S hj) (g := mkF m pc Ls (.int x :: .int j :: .ref a :: st)) rfl rfl (hb hby hd)
  exact own_go stp (k T' h' X' e' W' (Arv.set Ar q S N H F (fits_nar_bool _) W' i hi hlen))
theorem own_stD (X : Stand p l e R s m args below meth c T locs cells slots) (hx : p.tables.exec = Jvm.exec) (hby : c.code = B) (hZ : Z.Warmed39 s.vm) (eT : T.heap = h) {a : Addr} {kA : ClassId} {z j : Int32} {vs : List Value} {dv : Value} {x : UInt64} (A : Arv Z h a kA .double z vs dv) (hj : ¬ j < 0 ∧ j < z) (i : Nat) (hi : j.toNatClampNeg = i) (hlen : i < vs.length) (hd : decode B pc = .ok (.dastore, 1)) (hp : pc + 1 = pc')
    (k : ∀ (T' : State) (h' : Heap), Stand p l e R s m args below meth c T' (locs ++ [⟨a, j.toNatClampNeg⟩]) cells slots → T'.heap = h' → Wr h h' a j.toNatClampNeg (.double x) → Arv Z h' a kA .double z (vs.set i (.double x)) dv → own_E p.tables e below G (T'.setTop (mkF m pc' Ls (st)))) : own_E p.tables e below G (T.setTop (mkF m pc Ls (.double x :: .int j :: .ref a :: st))) := by
  subst hp
  obtain ⟨cl, Ar, q, S, N, H, F⟩ := A
  obtain ⟨T', h', X', e', W', stp⟩ := stD X hx hZ eT Ar (j := j) (inb_of S hj) (g := mkF m pc Ls (.double x :: .int j :: .ref a :: st)) rfl rfl (hb hby hd)
  exact own_go stp (k T' h' X' e' W' (Arv.set Ar q S N H F rfl W' i hi hlen))
theorem own_stR (X : Stand p l e R s m args below meth c T locs cells slots) (hx : p.tables.exec = Jvm.exec) (hby : c.code = B) (hZ : Z.Warmed39 s.vm) (eT : T.heap = h) {a : Addr} {kA : ClassId} {ty : FieldType} {z j : Int32} {vs : List Value} {dv v : Value} (A : Arv Z h a kA ty z vs dv) (hty : ty.isReference = true) (hv : v.isRef = true) (F : Sto Z h a v) (hj : ¬ j < 0 ∧ j < z) (i : Nat) (hi : j.toNatClampNeg = i) (hlen : i < vs.length) (hd : decode B pc = .ok (.aastore, 1)) (hp : pc + 1 = pc')
    (k : ∀ (T' : State) (h' : Heap), Stand p l e R s m args below meth c T' (locs ++ [⟨a, j.toNatClampNeg⟩]) cells slots → T'.heap = h' → Wr h h' a j.toNatClampNeg v → Arv Z h' a kA ty z (vs.set i v) dv → own_E p.tables e below G (T'.setTop (mkF m pc' Ls (st)))) : own_E p.tables e below G (T.setTop (mkF m pc Ls (v :: .int j :: .ref a :: st))) := by
  subst hp
  obtain ⟨cl, Ar, q, S, N, H, F'⟩ := A
  obtain ⟨T', h', X', e', W', stp⟩ := stR X hx hZ eT Ar (j := j) (inb_of S hj) hty F (g := mkF m pc Ls (v :: .int j :: .ref a :: st)) rfl rfl (hb hby hd)
  exact own_go stp (k T' h' X' e' W' (Arv.set Ar q S N H F' (by cases ty <;> first | (cases hty; done) | (rcases ref_cases hv with rfl | ⟨_, rfl⟩ <;> rfl)) W' i hi hlen))
theorem own_sto {a y : Addr} {kA : ClassId} {ty : FieldType} {z : Int32} {vs : List Value} {dv : Value} {C : String} (A : Arv Z h a kA ty z vs dv) (O : Ovr Z kA C) (I : Ins Z h y C true) : Sto Z h a (.ref y) := by
  obtain ⟨cl, Ar, q, -⟩ := A; exact Sto.ofV Ar q O I
theorem own_ldcI (X : Stand p l e R s m args below meth c T locs cells slots) (hx : p.tables.exec = Jvm.exec) (hby : c.code = B) (hZ : Z.Warmed39 s.vm) {own : String} {index : Nat} {v : Int32} (hown : s.vm.findClass own = some m.cls) (w : (Jvm.Cond.constant own index v).before a0 Z = true) (hd : decode B pc = .ok (.ldc index, 2)) (hp : pc + 2 = pc')
    (k : own_E p.tables e below G (T.setTop (mkF m pc' Ls (.int v :: st)))) : own_E p.tables e below G (T.setTop (mkF m pc Ls (st))) := by
  subst hp; exact own_go (fun t q => X.ldcInt hx hown (mvT hZ w) (g := mkF m pc Ls st) rfl (hb hby hd) t q) k
theorem own_ldcJ (X : Stand p l e R s m args below meth c T locs cells slots) (hx : p.tables.exec = Jvm.exec) (hby : c.code = B) (hZ : Z.Warmed39 s.vm) {own : String} {index : Nat} {v : Int64} (hown : s.vm.findClass own = some m.cls) (w : (Jvm.Cond.constantLong own index v).before a0 Z = true) (hd : decode B pc = .ok (.ldc2_w index, 3)) (hp : pc + 3 = pc')
    (k : own_E p.tables e below G (T.setTop (mkF m pc' Ls (.long v :: st)))) : own_E p.tables e below G (T.setTop (mkF m pc Ls (st))) := by
  subst hp; exact own_go (fun t q => X.ldc2Long hx hown (mvT hZ w) (g := mkF m pc Ls st) rfl (hb hby hd) t q) k
theorem own_ldcD (X : Stand p l e R s m args below meth c T locs cells slots) (hx : p.tables.exec = Jvm.exec) (hby : c.code = B) (hZ : Z.Warmed39 s.vm) {own : String} {index : Nat} {v : UInt64} (hown : s.vm.findClass own = some m.cls) (w : (Jvm.Cond.constantDouble own index v).before a0 Z = true) (hd : decode B pc = .ok (.ldc2_w index, 3)) (hp : pc + 3 = pc')
    (k : own_E p.tables e below G (T.setTop (mkF m pc' Ls (.double v :: st)))) : own_E p.tables e below G (T.setTop (mkF m pc Ls (st))) := by
  subst hp; exact own_go (fun t q => X.ldc2DoubleC hx hown (mvT hZ w) (g := mkF m pc Ls st) rfl (hb hby hd) t q) k
theorem own_cast (X : Stand p l e R s m args below meth c T locs cells slots) (hx : p.tables.exec = Jvm.exec) (hby : c.code = B) (hZ : Z.Warmed39 s.vm) {own K : String} {index : Nat} (hown : s.vm.findClass own = some m.cls) (w : (Jvm.Cond.classLink own index K).before a0 Z = true) (eT : T.heap = h) {a : Addr} (F : Ins Z h a K true) (hd : decode B pc = .ok (.checkcast index, 3)) (hp : pc + 3 = pc')
    (k : ∀ T' : State, Stand p l e R s m args below meth c T' locs cells slots → T'.heap = h → own_E p.tables e below G (T'.setTop (mkF m pc' Ls (.ref a :: st)))) : own_E p.tables e below G (T.setTop (mkF m pc Ls (.ref a :: st))) := by
  subst hp
  obtain ⟨T', X', e', stp⟩ := castY X hx hZ hown w eT F (g := mkF m pc Ls (.ref a :: st)) rfl rfl (hb hby hd)
  exact own_go stp (k T' X' e')
theorem own_instY (X : Stand p l e R s m args below meth c T locs cells slots) (hx : p.tables.exec = Jvm.exec) (hby : c.code = B) (hZ : Z.Warmed39 s.vm) {own K : String} {index : Nat} (hown : s.vm.findClass own = some m.cls) (w : (Jvm.Cond.classLink own index K).before a0 Z = true) (eT : T.heap = h) {a : Addr} (F : Ins Z h a K true) (hd : decode B pc = .ok (.instanceof index, 3)) (hp : pc + 3 = pc')
    (k : ∀ T' : State, Stand p l e R s m args below meth c T' locs cells slots → T'.heap = h → own_E p.tables e below G (T'.setTop (mkF m pc' Ls (.int 1 :: st)))) : own_E p.tables e below G (T.setTop (mkF m pc Ls (.ref a :: st))) := by
  subst hp
  obtain ⟨T', X', e', stp⟩ := instY X hx hZ hown w eT F (g := mkF m pc Ls (.ref a :: st)) rfl rfl (hb hby hd)
  exact own_go stp (k T' X' e')
theorem own_dloadN (X : Stand p l e R s m args below meth c T locs cells slots) (hx : p.tables.exec = Jvm.exec) (hby : c.code = B) {k : Fin 4} {v : UInt64} (hd : decode B pc = .ok (.dload_n k, 1)) (hp : pc + 1 = pc') (hl : Ls[k.val]? = some (.val (.double v)))
    (k : own_E p.tables e below G (T.setTop (mkF m pc' Ls (.double v :: st)))) : own_E p.tables e below G (T.setTop (mkF m pc Ls (st))) := by
  subst hp; exact own_go (fun t q => XS.dloadN X.here hx rfl (hb hby hd) hl q) k
theorem own_dload (X : Stand p l e R s m args below meth c T locs cells slots) (hx : p.tables.exec = Jvm.exec) (hby : c.code = B) {k : Nat} {v : UInt64} (hd : decode B pc = .ok (.dload k, 2)) (hp : pc + 2 = pc') (hl : Ls[k]? = some (.val (.double v)))
    (k : own_E p.tables e below G (T.setTop (mkF m pc' Ls (.double v :: st)))) : own_E p.tables e below G (T.setTop (mkF m pc Ls (st))) := by
  subst hp; exact own_go (fun t q => XS.dload X.here hx rfl (hb hby hd) hl q) k
theorem own_dstoreN (X : Stand p l e R s m args below meth c T locs cells slots) (hx : p.tables.exec = Jvm.exec) (hby : c.code = B) {k : Fin 4} {v : UInt64} (hd : decode B pc = .ok (.dstore_n k, 1)) (hp : pc + 1 = pc') (hl : storeLocals Ls k.val (.double v) = some Ls')
    (k : own_E p.tables e below G (T.setTop (mkF m pc' Ls' (st)))) : own_E p.tables e below G (T.setTop (mkF m pc Ls (.double v :: st))) := by
  subst hp; exact own_go (fun t q => XS.dstoreN X.here hx rfl (hb hby hd) rfl hl q) k
theorem own_dstore (X : Stand p l e R s m args below meth c T locs cells slots) (hx : p.tables.exec = Jvm.exec) (hby : c.code = B) {k : Nat} {v : UInt64} (hd : decode B pc = .ok (.dstore k, 2)) (hp : pc + 2 = pc') (hl : storeLocals Ls k (.double v) = some Ls')
    (k : own_E p.tables e below G (T.setTop (mkF m pc' Ls' (st)))) : own_E p.tables e below G (T.setTop (mkF m pc Ls (.double v :: st))) := by
  subst hp; exact own_go (fun t q => XS.dstore X.here hx rfl (hb hby hd) rfl hl q) k
theorem own_dconst0 (X : Stand p l e R s m args below meth c T locs cells slots) (hx : p.tables.exec = Jvm.exec) (hby : c.code = B) {v : UInt64} (hd : decode B pc = .ok (.dconst 0, 1)) (hp : pc + 1 = pc') (hv : FP.dconst0 = v)
    (k : own_E p.tables e below G (T.setTop (mkF m pc' Ls (.double v :: st)))) : own_E p.tables e below G (T.setTop (mkF m pc Ls (st))) := by
  subst hp; exact own_go (fun t q => XS.dconst0 X.here hx rfl (hb hby hd) hv q) k
theorem own_dconst1 (X : Stand p l e R s m args below meth c T locs cells slots) (hx : p.tables.exec = Jvm.exec) (hby : c.code = B) {v : UInt64} (hd : decode B pc = .ok (.dconst 1, 1)) (hp : pc + 1 = pc') (hv : FP.dconst1 = v)
    (k : own_E p.tables e below G (T.setTop (mkF m pc' Ls (.double v :: st)))) : own_E p.tables e below G (T.setTop (mkF m pc Ls (st))) := by
  subst hp; exact own_go (fun t q => XS.dconst1 X.here hx rfl (hb hby hd) hv q) k
theorem own_i2d (X : Stand p l e R s m args below meth c T locs cells slots) (hx : p.tables.exec = Jvm.exec) (hby : c.code = B) {x : Int32} {v : UInt64} (hd : decode B pc = .ok (.i2d, 1)) (hp : pc + 1 = pc') (hv : FP.i2d x = v)
    (k : own_E p.tables e below G (T.setTop (mkF m pc' Ls (.double v :: st)))) : own_E p.tables e below G (T.setTop (mkF m pc Ls (.int x :: st))) := by
  subst hp; exact own_go (fun t q => XS.i2dS X.here hx rfl (hb hby hd) rfl hv q) k
theorem own_l2d (X : Stand p l e R s m args below meth c T locs cells slots) (hx : p.tables.exec = Jvm.exec) (hby : c.code = B) {x : Int64} {v : UInt64} (hd : decode B pc = .ok (.l2d, 1)) (hp : pc + 1 = pc') (hv : FP.l2d x = v)
    (k : own_E p.tables e below G (T.setTop (mkF m pc' Ls (.double v :: st)))) : own_E p.tables e below G (T.setTop (mkF m pc Ls (.long x :: st))) := by
  subst hp; exact own_go (fun t q => XS.l2dS X.here hx rfl (hb hby hd) rfl hv q) k
theorem own_dadd (X : Stand p l e R s m args below meth c T locs cells slots) (hx : p.tables.exec = Jvm.exec) (hby : c.code = B) {x y v : UInt64} (hd : decode B pc = .ok (.dadd, 1)) (hp : pc + 1 = pc') (hn : Jvm.Free.Fl.NoNaN64 (FP.dadd x y)) (hv : FP.dadd x y = v)
    (k : own_E p.tables e below G (T.setTop (mkF m pc' Ls (.double v :: st)))) : own_E p.tables e below G (T.setTop (mkF m pc Ls (.double y :: .double x :: st))) := by
  subst hp; exact own_go (fun t q => XS.daddS X.here hx rfl (hb hby hd) rfl hn hv q) k
theorem own_dsub (X : Stand p l e R s m args below meth c T locs cells slots) (hx : p.tables.exec = Jvm.exec) (hby : c.code = B) {x y v : UInt64} (hd : decode B pc = .ok (.dsub, 1)) (hp : pc + 1 = pc') (hn : Jvm.Free.Fl.NoNaN64 (FP.dsub x y)) (hv : FP.dsub x y = v)
    (k : own_E p.tables e below G (T.setTop (mkF m pc' Ls (.double v :: st)))) : own_E p.tables e below G (T.setTop (mkF m pc Ls (.double y :: .double x :: st))) := by
  subst hp; exact own_go (fun t q => XS.dsubS X.here hx rfl (hb hby hd) rfl hn hv q) k
theorem own_dmul (X : Stand p l e R s m args below meth c T locs cells slots) (hx : p.tables.exec = Jvm.exec) (hby : c.code = B) {x y v : UInt64} (hd : decode B pc = .ok (.dmul, 1)) (hp : pc + 1 = pc') (hn : Jvm.Free.Fl.NoNaN64 (FP.dmul x y)) (hv : FP.dmul x y = v)
    (k : own_E p.tables e below G (T.setTop (mkF m pc' Ls (.double v :: st)))) : own_E p.tables e below G (T.setTop (mkF m pc Ls (.double y :: .double x :: st))) := by
  subst hp; exact own_go (fun t q => XS.dmulS X.here hx rfl (hb hby hd) rfl hn hv q) k
theorem own_ddiv (X : Stand p l e R s m args below meth c T locs cells slots) (hx : p.tables.exec = Jvm.exec) (hby : c.code = B) {x y v : UInt64} (hd : decode B pc = .ok (.ddiv, 1)) (hp : pc + 1 = pc') (hn : Jvm.Free.Fl.NoNaN64 (FP.ddiv x y)) (hv : FP.ddiv x y = v)
    (k : own_E p.tables e below G (T.setTop (mkF m pc' Ls (.double v :: st)))) : own_E p.tables e below G (T.setTop (mkF m pc Ls (.double y :: .double x :: st))) := by
  subst hp; exact own_go (fun t q => XS.ddivS X.here hx rfl (hb hby hd) rfl hn hv q) k
theorem own_dcmp (X : Stand p l e R s m args below meth c T locs cells slots) (hx : p.tables.exec = Jvm.exec) (hby : c.code = B) {o : CmpOp} {x y : UInt64} {v : Int32} (hd : decode B pc = .ok (.dcmp o, 1)) (hp : pc + 1 = pc') (hv : cmpValue (FP.dcmp x y) o = v)
    (k : own_E p.tables e below G (T.setTop (mkF m pc' Ls (.int v :: st)))) : own_E p.tables e below G (T.setTop (mkF m pc Ls (.double y :: .double x :: st))) := by
  subst hp; exact own_go (fun t q => XS.dcmpS X.here hx rfl (hb hby hd) rfl hv q) k
theorem own_join {tb : Tables} {α : Type} {F : α → State} {P : α → Prop} {A : State} (rest : ∀ z, P z → own_E tb e below G (F z)) (br : (∀ z, P z → own_E tb e below G (F z)) → own_E tb e below G A) : own_E tb e below G A := br rest
/-- an array of arrays, each place filled -/
def own_Grid (Z : State) (h : Heap) (a : Addr) (n : Int32) : Prop := ∃ (kA : ClassId) (ty : FieldType) (xs : List Addr), Arv Z h a kA ty n (xs.map Value.ref) .null ∧ ty.isReference = true ∧ xs.length = n.toNatClampNeg
theorem own_Grid.ext {a : Addr} {n : Int32} (G : own_Grid Z h a n) (E : Ext h h') : own_Grid Z h' a n := by
  obtain ⟨kA, ty, xs, A, r⟩ := G; exact ⟨kA, ty, xs, A.ext E, r⟩
theorem own_grid (X : Stand p l e R s m args below meth c T locs cells slots) (hx : p.tables.exec = Jvm.exec) (hby : c.code = B) (hZ : Z.Warmed39 s.vm) {own C ad : String} {ty : FieldType} {index : Nat} (hown : s.vm.findClass own = some m.cls) (hC : (FieldType.array ty).toString = C) (had : "[" ++ C = ad)
    (w1 : (Jvm.Cond.classLink own index ad).before a0 Z = true) (w2 : (Jvm.Cond.arrayOver (.array ty)).before a0 Z = true) (w3 : (Jvm.Cond.arrayClass ty).before a0 Z = true) (eT : T.heap = h) (hd : decode B pc = .ok (.multianewarray index 2, 4)) (hp : pc + 4 = pc') {n : Int32}
    (hn : ¬ n < 0) {CC SS : Nat} (hN : n.toNatClampNeg ≤ SS) (hdf : fits ty (defaultValue ty) = true) (hdd : (defaultValue ty).isDefault = true) (hb1 : SS ≤ 1000) (hCC : 1 + SS ≤ CC) (hc : cells + CC ≤ R.cells) (hl : slots + SS ≤ R.slots)
    (k : ∀ (T' : State) (h' : Heap) (b : Addr), b = h.size → Stand p l e R s m args below meth c T' locs (cells + CC) (slots + SS) → T'.heap = h' → Ext h h' → own_Grid Z h' b n → own_E p.tables e below G (T'.setTop (mkF m pc' Ls (.ref b :: st)))) : own_E p.tables e below G (T.setTop (mkF m pc Ls (.int 0 :: .int n :: st))) := by
  subst hp
  obtain ⟨T', h', cA, comp, X', e', E', V', -, -, -, stp⟩ := gridM X hx hZ hown hC had w1 w2 w3 eT (g := mkF m pc Ls (.int 0 :: .int n :: st)) rfl (hb hby hd) rfl hn (by decide) rfl rfl (cap := 0) (by decide) (by decide) (by omega) hdf hdd (by omega) (by omega)
  exact own_go stp (k T' h' _ rfl (X'.mono (by omega) (by omega)) e' E' ⟨cA, _, _, V', rfl, by simp⟩)
theorem own_aaloadG (X : Stand p l e R s m args below meth c T locs cells slots) (hx : p.tables.exec = Jvm.exec) (hby : c.code = B) (hZ : Z.Warmed39 s.vm) (eT : T.heap = h) {a : Addr} {n j : Int32} (A : own_Grid Z h a n) (hj : ¬ j < 0 ∧ j < n) (hd : decode B pc = .ok (.aaload, 1)) (hp : pc + 1 = pc')
    (k : ∀ x : Addr, own_E p.tables e below G (T.setTop (mkF m pc' Ls (.ref x :: st)))) : own_E p.tables e below G (T.setTop (mkF m pc Ls (.int j :: .ref a :: st))) := by
  obtain ⟨kA, ty, xs, A, ht, hlen⟩ := A
  have hlt : j.toNatClampNeg < xs.length := by
    have h1 := hj.1; have h2 := hj.2
    simp only [Int32.lt_iff_toInt_lt, Int32.reduceToInt] at h1 h2
    rw [hlen]; simp only [Int32.toNatClampNeg]; omega
  exact own_aaloadV X hx hby hZ eT A ht hj (v := .ref xs[j.toNatClampNeg]) (by simp [List.getD_eq_getElem?_getD, hlt]) hd hp (k _)
end OwnHeap

abbrev own_ST : String := "java/lang/String"
/-- a String of these chars, each 0 to 255 -/
def own_Str (Z : State) (h : Heap) (a : Addr) (cs : List Int32) : Prop := Exa Z h a "java/lang/String" ∧ Fld Z h a "java/lang/String" "coder" "B" (.int (0 : Int32)) ∧ (∀ c ∈ cs, ¬ c < 0 ∧ ¬ (255 : Int32) < c) ∧ ∃ (t : Addr) (kb : ClassId), Fld Z h a "java/lang/String" "value" "[B" (.ref t) ∧ Arv Z h t kb .byte (Int32.ofNat cs.length) ((cs.map (fun c => c.toInt8.toInt32)).map Value.int) (.int (0 : Int32))
theorem own_Str.ext {Z : State} {h h' : Heap} {a : Addr} {cs : List Int32} (S : own_Str Z h a cs) (E : Ext h h') : own_Str Z h' a cs := by
  obtain ⟨A, C, hp, t, kb, V, K⟩ := S; exact ⟨A.ext E, C.ext E, hp, t, kb, V.ext E, K.ext E⟩
theorem own_Str.exa {Z : State} {h : Heap} {a : Addr} {cs : List Int32} (S : own_Str Z h a cs) : Exa Z h a "java/lang/String" := S.1
theorem own_narb (x : Int32) : nar .byte x.toInt8.toInt32 = x.toInt8.toInt32 := by simp [nar]
theorem own_char {x : Int32} (h0 : ¬ x < 0) (h1 : ¬ (255 : Int32) < x) : nar .char x = x ∧ x.toUInt32.toUInt16.toUInt32.toInt32 = x := by
  have t : ∀ k : Fin 256, nar .char (Int32.ofNat k.val) = Int32.ofNat k.val ∧ (Int32.ofNat k.val).toUInt32.toUInt16.toUInt32.toInt32 = Int32.ofNat k.val := by decide +kernel
  rw [Int32.lt_iff_toInt_lt] at h0 h1
  have e0 : (0 : Int32).toInt = 0 := rfl
  have e1 : (255 : Int32).toInt = 255 := rfl
  obtain ⟨k, hk⟩ : ∃ k : Nat, x.toInt = k := ⟨x.toInt.toNat, by omega⟩
  have hx : x = Int32.ofNat k := Int32.toInt_inj.mp (by rw [hk, Int32.toInt_ofNat_small (by omega)])
  rw [hx]
  exact t ⟨k, by omega⟩
theorem own_mask (x : Int32) : ¬ (x &&& (255 : Int32)) < 0 ∧ ¬ (255 : Int32) < (x &&& (255 : Int32)) := by
  have h := c_and x 255 (by decide)
  have e0 : (0 : Int32).toInt = 0 := rfl
  have e1 : (255 : Int32).toInt = 255 := rfl
  rw [Int32.lt_iff_toInt_lt, Int32.lt_iff_toInt_lt, e0, e1]; rw [e1] at h; omega
theorem own_mask_c (x : Int32) : (x &&& (255 : Int32)).toUInt32.toUInt16.toUInt32.toInt32 = x &&& (255 : Int32) := (own_char (own_mask x).1 (own_mask x).2).2
theorem own_mask_n (x : Int32) : nar .char (x &&& (255 : Int32)) = x &&& (255 : Int32) := (own_char (own_mask x).1 (own_mask x).2).1
theorem own_not0 {args : Array Value} {s : State} {t : Term} {G : Int32} (e : t.eval args s none [] s = some (.int G)) (h : (Jvm.Cond.not (Jvm.Cond.eq t (Jvm.Term.int (0 : Int32)))).before args s = true) : ¬ (G = (0 : Int32)) := by
  intro q; subst q
  have h1 := Cond.before_iff.mp h
  simp [Cond.value, e, Term.eval] at h1
section OwnWide
variable {p : Program} {l : Launch} {e : Env} {R : Room} {s : State} {m : MethodId} {args : Array Value} {below : List Frame} {meth : Method} {c : Code} {T : State} {locs : List Loc} {cells slots : Nat} {G : State → Outcome → Prop} {B : ByteArray} {pc pc' : Nat} {Ls Ls' : Array Slot} {st : List Value} {Z : State} {a0 : Array Value} {h h' h'' hb0 : Heap} {EL : List (String × Nat)} {vm0 v0 : Vm}
def own_Sn (s : State) (vm : Vm) (h : Heap) : Prop := ∃ k, s.Since vm k ∧ k ≤ h.size
theorem own_Sn.ext (S : own_Sn s vm0 h) (E : Ext h h') : own_Sn s vm0 h' := by obtain ⟨k, h1, h2⟩ := S; exact ⟨k, h1, Nat.le_trans h2 E.1⟩
def own_CH (Z : State) (EL : List (String × Nat)) (v0 : Vm) (hb0 : Heap) (vm : Vm) (h : Heap) : Prop := CHr Z EL v0 hb0 vm h
theorem own_CH.ext (A : own_CH Z EL v0 hb0 vm0 h) (E : Ext h h') : own_CH Z EL v0 hb0 vm0 h' := CHr.trans A (CHr.ext E A.1)
theorem own_Sn.wr {a : Addr} {sl : Nat} {v : Value} (S : own_Sn s vm0 h) (W : Wr h h' a sl v) : own_Sn s vm0 h' := by obtain ⟨k, h1, h2⟩ := S; exact ⟨k, h1, by rw [W.size]; exact h2⟩
theorem own_Sn.keep {ws : List Addr} (S : own_Sn s vm0 h) (K : Keep h h' ws) : own_Sn s vm0 h' := by obtain ⟨k, h1, h2⟩ := S; exact ⟨k, h1, Nat.le_trans h2 K.1⟩
theorem own_CH.wr {a : Addr} {sl : Nat} {v : Value} (A : own_CH Z EL v0 hb0 vm0 h) (W : Wr h h' a sl v) (S : Safe Z EL vm0 h a) : own_CH Z EL v0 hb0 vm0 h' := CHr.trans A (CHr.wr W S A.1)
theorem own_CH.keep {ws : List Addr} (A : own_CH Z EL v0 hb0 vm0 h) (K : Keep h h' ws) (S : ∀ x ∈ ws, Safe Z EL vm0 h x) : own_CH Z EL v0 hb0 vm0 h' := CHr.trans A (CHr.keep K S A.1)
def own_EndW (Z : State) (EL : List (String × Nat)) (s : State) (h0 : Heap) (below : List Frame) (Q : Option Value → Heap → List Loc → Prop) (C S : Nat) (s₂ : State) (o : Outcome) : Prop := s₂.status = .running ∧ Ended s₂ below o ∧ ∃ v L, o = .returned v ∧ Q v s₂.heap L ∧ CHr Z EL s.vm h0 s₂.vm s₂.heap ∧ ReturnedEndW s o s₂ L C S
/-- a body's wide contract -/
def own_MetW (l : Launch) (Z : State) (EL : List (String × Nat)) (x : MethodName) (bytes : ByteArray) (maxL : Nat) (ret : Option FieldType) (rm : Room) (as' : Array Value) (h0 : Heap) (Q : Option Value → Heap → List Loc → Prop) : Prop :=
  ∀ ws : List Jvm.Cond, MetFree l x (head1 (Jvm.Cond.code x bytes maxL ret :: ws) rm) (fun a U => a = as' ∧ Z.Warmed39 U.vm ∧ U.heap = h0 ∧ CHv Z EL U.vm h0) (fun _ _ _ _ _ => True) (fun _ U o U' => ∃ v L, o = .returned v ∧ Q v U'.heap L ∧ CHr Z EL U.vm U.heap U'.vm U'.heap ∧ ReturnedEndW U o U' L rm.cells rm.slots)
theorem own_bodyW {x : MethodName} {bytes : ByteArray} {maxL : Nat} {ret : Option FieldType} {rm : Room} {as' : Array Value} {h0 : Heap} {Q : Option Value → Heap → List Loc → Prop} (hpl : plainFor x = true)
    (body : ∀ (p : Program) (e : Env) (s : State) (m : MethodId) (below : List Frame) (meth : Method) (c : Code) (s₁ : State) (vm0 : Vm), p.tables.exec = Jvm.exec → c.code = bytes → c.maxLocals = maxL → vm0.findClass x.cls = some m.cls → meth.name = x.name → meth.locks = false → meth.sig.returnType = ret → Z.Warmed39 vm0 → Z.Warmed39 s.vm → own_Sn s vm0 h0 → own_CH Z EL s.vm h0 vm0 h0 → Stand p l e rm (s.setVm vm0) m as' below meth c s₁ [] 0 0 → s₁.heap = h0 →
      own_E p.tables e below (own_EndW Z EL s h0 below Q rm.cells rm.slots) (s₁.setTop (entryFrame m as' maxL))) : own_MetW l Z EL x bytes maxL ret rm as' h0 Q := by
  intro ws
  refine MetFree.of_bodySF hpl hisR ?_
  intro p e s m args below meth c s₁ Bd hml0 hP hK
  obtain ⟨rfl, hZ, hh, hC⟩ := hP
  obtain ⟨s₂, o, q1, q2, q3, v, L, q4, q5, q6, q7⟩ := body p e s m below meth c s₁ s.vm Bd.exec Bd.bytes hml0 (findClass_of_methodNamed Bd.named) (name_of_methodNamed Bd.named Bd.method).1 (BodyLoose.notSynchronized Bd) Bd.returns hZ hZ ⟨0, (State.WarmedH.refl s).since 0, Nat.zero_le _⟩ (CHr.refl hC) (Stand.of_body Bd) (by rw [← hh, Bd.state]; rfl)
  exact ⟨s₂, o, q1, q2, q3, v, L, q4, q5, by rw [hh]; exact q6, q7⟩
theorem own_backW {y : MethodName} {bytes : ByteArray} {maxL : Nat} {ret : Option FieldType} {rm : Room} {len W : Nat} {as' : Array Value} {Q : Option Value → Heap → List Loc → Prop} (hM : own_MetW l Z EL y bytes maxL ret rm as' h Q)
    (hZ : Z.Warmed39 vm0) (hEL : EW Z a0 EL) (wc : (Jvm.Cond.code y bytes maxL ret).before a0 Z = true) (wz : (Jvm.Cond.initialized y.cls).before a0 Z = true) (A : own_CH Z EL v0 hb0 vm0 h) (hf : rm.frames + 1 ≤ R.frames) (hl : W + (maxL + 11) + rm.locals ≤ R.locals) :
    BackS l R p e below (s.setVm vm0) args y len W (fun A a => a = as' ∧ A.U.heap = h ∧ A.cells + rm.cells ≤ R.cells ∧ A.slots + rm.slots ≤ R.slots)
      (fun A _ v B => ∃ L, Q v B.U.heap L ∧ B.locs = A.locs ++ L ∧ B.cells = A.cells + rm.cells ∧ B.slots = A.slots + rm.slots ∧ CHr Z EL vm0 h B.U.vm B.U.heap) := backOfSH (hM []) hZ wc wz hf hl hEL A.1
theorem own_retW (X : Stand p l e R (s.setVm vm0) m args below meth c T locs cells slots) (hZ : Z.Warmed39 vm0) (hEL : EW Z a0 EL) (eT : T.heap = h) (SN : own_Sn s vm0 h) (A : own_CH Z EL s.vm hb0 vm0 h) {Q : Option Value → Heap → List Loc → Prop} {C S : Nat} {v : Option Value} (hv : meth.sig.returnType = none → v = none) (hlocks : meth.locks = false)
    (hst : ∀ fs : List Frame, (∀ (f : JFrame) (acts : List Action), f.method = m → f.locked = none → f.entered = [] → (doReturn e (T.setTop f) acts v).1 = T.setFrames fs) → Steps p.tables e below (T.setTop (mkF m pc Ls st)) (T.setFrames fs))
    (hq : Q v h locs) (hc : cells ≤ C) (hs : slots ≤ S) : own_E p.tables e below (own_EndW Z EL s hb0 below Q C S) (T.setTop (mkF m pc Ls st)) := by
  obtain ⟨k, h1, h2⟩ := SN
  obtain ⟨fs, hr, hrun, hended, r1, r2, r3, r4⟩ := X.leaveW h1 (by rw [eT]; exact h2) hv hlocks
  have AT := CHv.at X hZ hEL A.1
  subst eT
  exact ⟨_, _, hst fs hr, hrun, hended, v, locs, rfl, hq, CHr.trans A AT, r1, r2, r3, r4.mono hc hs⟩
theorem own_retNW (X : Stand p l e R (s.setVm vm0) m args below meth c T locs cells slots) (hx : p.tables.exec = Jvm.exec) (hby : c.code = B) (hZ : Z.Warmed39 vm0) (hEL : EW Z a0 EL) (eT : T.heap = h) (SN : own_Sn s vm0 h) (A : own_CH Z EL s.vm hb0 vm0 h) {Q : Option Value → Heap → List Loc → Prop} {C S : Nat} {t : FieldType} {z z' : Int32} (hlocks : meth.locks = false) (hret : meth.sig.returnType = some t) (ht : t = .boolean ∨ t = .byte ∨ t = .char ∨ t = .short)
    (hd : decode B pc = .ok (.ireturn, 1)) (hz : nar t z = z') (hq : Q (some (.int z')) h locs) (hc : cells ≤ C) (hs : slots ≤ S) : own_E p.tables e below (own_EndW Z EL s hb0 below Q C S) (T.setTop (mkF m pc Ls (.int z :: st))) :=
  own_retW X hZ hEL eT SN A (fun h => by rw [hret] at h; cases h) hlocks (fun fs hl => retN X hx (t := t) hret ht (hb hby hd) (by rw [hz]; exact hl)) hq hc hs
theorem own_retIW (X : Stand p l e R (s.setVm vm0) m args below meth c T locs cells slots) (hx : p.tables.exec = Jvm.exec) (hby : c.code = B) (hZ : Z.Warmed39 vm0) (hEL : EW Z a0 EL) (eT : T.heap = h) (SN : own_Sn s vm0 h) (A : own_CH Z EL s.vm hb0 vm0 h) {Q : Option Value → Heap → List Loc → Prop} {C S : Nat} {z : Int32} (hlocks : meth.locks = false) (hret : meth.sig.returnType = some .int)
    (hd : decode B pc = .ok (.ireturn, 1)) (hq : Q (some (.int z)) h locs) (hc : cells ≤ C) (hs : slots ≤ S) : own_E p.tables e below (own_EndW Z EL s hb0 below Q C S) (T.setTop (mkF m pc Ls (.int z :: st))) :=
  own_retW X hZ hEL eT SN A (fun h => by rw [hret] at h; cases h) hlocks (fun fs hl => retOut X hx hret rfl (Or.inl ⟨rfl, Or.inl rfl, _, rfl⟩) (hb hby hd) hl) hq hc hs
theorem own_retAW (X : Stand p l e R (s.setVm vm0) m args below meth c T locs cells slots) (hx : p.tables.exec = Jvm.exec) (hby : c.code = B) (hZ : Z.Warmed39 vm0) (hEL : EW Z a0 EL) (eT : T.heap = h) (SN : own_Sn s vm0 h) (A : own_CH Z EL s.vm hb0 vm0 h) {Q : Option Value → Heap → List Loc → Prop} {C S : Nat} {t : FieldType} {v : Value} (hlocks : meth.locks = false) (hret : meth.sig.returnType = some t) (ht : t.isReference = true) (hv : v.isRef = true)
    (hd : decode B pc = .ok (.areturn, 1)) (hq : Q (some v) h locs) (hc : cells ≤ C) (hs : slots ≤ S) : own_E p.tables e below (own_EndW Z EL s hb0 below Q C S) (T.setTop (mkF m pc Ls (v :: st))) :=
  own_retW X hZ hEL eT SN A (fun h => by rw [hret] at h; cases h) hlocks (fun fs hl => retOut X hx hret (by cases t <;> first | (cases ht; done) | (rcases ref_cases hv with rfl | ⟨_, rfl⟩ <;> rfl)) (Or.inr (Or.inr (Or.inr (Or.inr ⟨rfl, ht, hv⟩)))) (hb hby hd) hl) hq hc hs
theorem own_ret0W (X : Stand p l e R (s.setVm vm0) m args below meth c T locs cells slots) (hx : p.tables.exec = Jvm.exec) (hby : c.code = B) (hZ : Z.Warmed39 vm0) (hEL : EW Z a0 EL) (eT : T.heap = h) (SN : own_Sn s vm0 h) (A : own_CH Z EL s.vm hb0 vm0 h) {Q : Option Value → Heap → List Loc → Prop} {C S : Nat} (hlocks : meth.locks = false) (hret : meth.sig.returnType = none)
    (hd : decode B pc = .ok (.return_, 1)) (hq : Q none h locs) (hc : cells ≤ C) (hs : slots ≤ S) : own_E p.tables e below (own_EndW Z EL s hb0 below Q C S) (T.setTop (mkF m pc Ls [])) :=
  own_retW X hZ hEL eT SN A (fun _ => rfl) hlocks (fun fs hl => X.returnOut hx hret (hb hby hd) hl) hq hc hs
theorem own_callSW (X : Stand p l e R (s.setVm vm0) m args below meth c T locs cells slots) (hx : p.tables.exec = Jvm.exec) (hby : c.code = B) {own : String} {index nl : Nat} {as' : Array Value} {W cc ss : Nat} {Q : Option Value → Heap → List Loc → Prop} {y : MethodName} {bytes : ByteArray} {maxL : Nat} {ret : Option FieldType} (hml : c.maxLocals = nl) (hZ : Z.Warmed39 vm0) (hown : vm0.findClass own = some m.cls) (SN : own_Sn s vm0 h) (A : own_CH Z EL v0 hb0 vm0 h)
    (w1 : (Cond.methodLink own index y).before a0 Z = true) (w2 : (Cond.static y).before a0 Z = true) (w3 : (Cond.initialized y.cls).before a0 Z = true) (w4 : (Cond.code y bytes maxL ret).before a0 Z = true) (hy : y.cls ≠ "java/lang/invoke/MethodHandle" ∧ y.cls ≠ "java/lang/invoke/VarHandle")
    (hK : BackS l R p e below (s.setVm vm0) args y 3 W (fun P a => a = as' ∧ P.U.heap = h ∧ P.cells + cc ≤ R.cells ∧ P.slots + ss ≤ R.slots) (fun P _ v B => ∃ L, Q v B.U.heap L ∧ B.locs = P.locs ++ L ∧ B.cells = P.cells + cc ∧ B.slots = P.slots + ss ∧ CHr Z EL vm0 h B.U.vm B.U.heap)) (hsz : Ls.size = nl) {argsL rest : List Value} {ps : List FieldType} {r : Option FieldType} (hpd : parseMethodDescriptor y.desc = some ⟨ps, r⟩) (hlen : argsL.length = ps.length) (hst : st = argsL.reverse ++ rest) (hW : (rest.map fun v => v.category).sum ≤ W)
    (hd : decode B pc = .ok (.invokestatic index, 3)) (hp : pc + 3 = pc') (hargs : argsL.toArray = as') (eT : T.heap = h) (hc : cells + cc ≤ R.cells) (hs : slots + ss ≤ R.slots)
    (k : ∀ (v : Option Value) (T' : State) (vm1 : Vm) (h' : Heap) (L : List Loc), Stand p l e R (s.setVm vm1) m args below meth c T' (locs ++ L) (cells + cc) (slots + ss) → T'.heap = h' → Z.Warmed39 vm1 → vm1.findClass own = some m.cls → own_Sn s vm1 h' → own_CH Z EL v0 hb0 vm1 h' → h.size ≤ h'.size → Q v h' L → own_E p.tables e below G (T'.setTop (mkF m pc' Ls (v.toList ++ rest)))) : own_E p.tables e below G (T.setTop (mkF m pc Ls st)) := by
  subst hp
  obtain ⟨v, vm₁, ⟨T', L', k', n'⟩, -, X', hS, hgr, ⟨L, hQ, q1, q2, q3, q4⟩, stp⟩ := callSS X hx hown (mvT (s := s.setVm vm0) hZ w1) (mvT (s := s.setVm vm0) hZ w2) (mvT (s := s.setVm vm0) hZ w3) (mvT (s := s.setVm vm0) hZ w4) hy hK (g := mkF m pc Ls st) rfl (by rw [hml]; exact hsz) (argsL := argsL) (rest := rest) (lenOf hpd hlen) hst (by show 2 * 0 + _ ≤ _; rw [Nat.mul_zero, Nat.zero_add]; exact hW) (hb hby hd) (fun _ _ => ⟨hargs, eT, hc, hs⟩)
  dsimp only at X' hQ q1 q2 q3 q4 stp hgr
  subst q1 q2 q3
  obtain ⟨k0, s1, s2⟩ := SN
  have hW : Z.Warmed39 T'.vm := State.Warmed39.trans (t := s.setVm vm0) hZ hS.1
  have hSn : own_Sn s T'.vm T'.heap := ⟨_, s1.trans hS (Nat.le_trans s2 (by rw [← eT]; exact hgr)), Nat.le_refl _⟩
  have hf : T'.vm.findClass own = some m.cls := by rw [hS.1.alike.findClass]; exact hown
  exact own_tr stp (k v T' T'.vm _ L X' rfl hW hf hSn (CHr.trans A q4) (by rw [← eT]; exact hgr) hQ)
theorem own_specW (X : Stand p l e R (s.setVm vm0) m args below meth c T locs cells slots) (hx : p.tables.exec = Jvm.exec) (hby : c.code = B) {own : String} {index nl : Nat} {as' : Array Value} {W cc ss : Nat} {Q : Option Value → Heap → List Loc → Prop} {y : MethodName} {bytes : ByteArray} {maxL : Nat} (hml : c.maxLocals = nl) (hZ : Z.Warmed39 vm0) (hown : vm0.findClass own = some m.cls) (SN : own_Sn s vm0 h) (A : own_CH Z EL v0 hb0 vm0 h) (hy1 : y.name = "<init>")
    (w1 : (Cond.methodLink own index y).before a0 Z = true) (w2 : (Cond.instanceMethod y).before a0 Z = true) (w4 : (Cond.code y bytes maxL none).before a0 Z = true) (hy : y.cls ≠ "java/lang/invoke/MethodHandle" ∧ y.cls ≠ "java/lang/invoke/VarHandle")
    (hK : BackS l R p e below (s.setVm vm0) args y 3 W (fun P a => a = as' ∧ P.U.heap = h ∧ P.cells + cc ≤ R.cells ∧ P.slots + ss ≤ R.slots) (fun P _ v B => ∃ L, Q v B.U.heap L ∧ B.locs = P.locs ++ L ∧ B.cells = P.cells + cc ∧ B.slots = P.slots + ss ∧ CHr Z EL vm0 h B.U.vm B.U.heap)) (hsz : Ls.size = nl) {a : Addr} {argsL rest : List Value} {ps : List FieldType} {r : Option FieldType} (hpd : parseMethodDescriptor y.desc = some ⟨ps, r⟩) (hlen : argsL.length = ps.length) (hst : st = argsL.reverse ++ .ref a :: rest) (hW : (rest.map fun v => v.category).sum ≤ W)
    (hd : decode B pc = .ok (.invokespecial index, 3)) (hp : pc + 3 = pc') (hargs : (.ref a :: argsL).toArray = as') (eT : T.heap = h) (hc : cells + cc ≤ R.cells) (hs : slots + ss ≤ R.slots)
    (k : ∀ (v : Option Value) (T' : State) (vm1 : Vm) (h' : Heap) (L : List Loc), Stand p l e R (s.setVm vm1) m args below meth c T' (locs ++ L) (cells + cc) (slots + ss) → T'.heap = h' → Z.Warmed39 vm1 → vm1.findClass own = some m.cls → own_Sn s vm1 h' → own_CH Z EL v0 hb0 vm1 h' → h.size ≤ h'.size → Q v h' L → own_E p.tables e below G (T'.setTop (mkF m pc' Ls (v.toList ++ rest)))) : own_E p.tables e below G (T.setTop (mkF m pc Ls st)) := by
  subst hp
  obtain ⟨v, vm₁, ⟨T', L', k', n'⟩, -, X', hS, hgr, ⟨L, hQ, q1, q2, q3, q4⟩, stp⟩ := X.specialBackS hx hy1 hown (mvT (s := s.setVm vm0) hZ w1) (mvT (s := s.setVm vm0) hZ w2) (mvT (s := s.setVm vm0) hZ w4) hy hK (g := mkF m pc Ls st) rfl (by rw [hml]; exact hsz) (Steps.refl _) (a := a) (argsL := argsL) (rest := rest) (lenOf hpd hlen) hst (by show 2 * 0 + _ ≤ _; rw [Nat.mul_zero, Nat.zero_add]; exact hW) (hb hby hd) (fun _ _ => ⟨hargs, eT, hc, hs⟩)
  dsimp only at X' hQ q1 q2 q3 q4 stp hgr
  subst q1 q2 q3
  obtain ⟨k0, s1, s2⟩ := SN
  have hW : Z.Warmed39 T'.vm := State.Warmed39.trans (t := s.setVm vm0) hZ hS.1
  have hSn : own_Sn s T'.vm T'.heap := ⟨_, s1.trans hS (Nat.le_trans s2 (by rw [← eT]; exact hgr)), Nat.le_refl _⟩
  have hf : T'.vm.findClass own = some m.cls := by rw [hS.1.alike.findClass]; exact hown
  exact own_tr stp (k v T' T'.vm _ L X' rfl hW hf hSn (CHr.trans A q4) (by rw [← eT]; exact hgr) hQ)
theorem own_virtW (X : Stand p l e R (s.setVm vm0) m args below meth c T locs cells slots) (hx : p.tables.exec = Jvm.exec) (hby : c.code = B) {own : String} {index nl : Nat} {as' : Array Value} {W cc ss : Nat} {Q : Option Value → Heap → List Loc → Prop} {C : String} {y z : MethodName} (hml : c.maxLocals = nl) (hZ : Z.Warmed39 vm0) (hown : vm0.findClass own = some m.cls) (SN : own_Sn s vm0 h) (A : own_CH Z EL v0 hb0 vm0 h)
    (w1 : (Cond.methodLink own index y).before a0 Z = true) (w2 : (Cond.declares y).before a0 Z = true) (hnf : NotFace (s.setVm vm0) y) (w3 : (Cond.selects C y z).before a0 Z = true) (w4 : (Cond.instanceMethod z).before a0 Z = true) (hy : y.cls ≠ "java/lang/invoke/MethodHandle" ∧ y.cls ≠ "java/lang/invoke/VarHandle")
    (hK : BackS l R p e below (s.setVm vm0) args z 3 W (fun P a => a = as' ∧ P.U.heap = h ∧ P.cells + cc ≤ R.cells ∧ P.slots + ss ≤ R.slots) (fun P _ v B => ∃ L, Q v B.U.heap L ∧ B.locs = P.locs ++ L ∧ B.cells = P.cells + cc ∧ B.slots = P.slots + ss ∧ CHr Z EL vm0 h B.U.vm B.U.heap)) (hsz : Ls.size = nl) {a : Addr} (hE : Exa Z h a C) {argsL rest : List Value} {ps : List FieldType} {r : Option FieldType} (hpd : parseMethodDescriptor y.desc = some ⟨ps, r⟩) (hlen : argsL.length = ps.length) (hst : st = argsL.reverse ++ .ref a :: rest) (hW : (rest.map fun v => v.category).sum ≤ W)
    (hd : decode B pc = .ok (.invokevirtual index, 3)) (hp : pc + 3 = pc') (hargs : (.ref a :: argsL).toArray = as') (eT : T.heap = h) (hc : cells + cc ≤ R.cells) (hs : slots + ss ≤ R.slots)
    (k : ∀ (v : Option Value) (T' : State) (vm1 : Vm) (h' : Heap) (L : List Loc), Stand p l e R (s.setVm vm1) m args below meth c T' (locs ++ L) (cells + cc) (slots + ss) → T'.heap = h' → Z.Warmed39 vm1 → vm1.findClass own = some m.cls → own_Sn s vm1 h' → own_CH Z EL v0 hb0 vm1 h' → h.size ≤ h'.size → Q v h' L → own_E p.tables e below G (T'.setTop (mkF m pc' Ls (v.toList ++ rest)))) : own_E p.tables e below G (T.setTop (mkF m pc Ls st)) := by
  subst hp
  obtain ⟨cq, kq, qa, qb, qc⟩ := isOf (s := s.setVm vm0) hZ eT hE
  obtain ⟨v, vm₁, ⟨T', L', k', n'⟩, -, X', hS, hgr, ⟨L, hQ, q1, q2, q3, q4⟩, stp⟩ := X.virtualBackS hx hown (mvT (s := s.setVm vm0) hZ w1) (mvT (s := s.setVm vm0) hZ w2) hnf (mvT (s := s.setVm vm0) hZ w3) (mvT (s := s.setVm vm0) hZ w4) hy hK qa qc (g := mkF m pc Ls st) rfl (by rw [hml]; exact hsz) (Steps.refl _) (argsL := argsL) (rest := rest) (lenOf hpd hlen) hst (by show 2 * 0 + _ ≤ _; rw [Nat.mul_zero, Nat.zero_add]; exact hW) (hb hby hd) (fun _ _ => ⟨hargs, eT, hc, hs⟩)
  dsimp only at X' hQ q1 q2 q3 q4 stp hgr
  subst q1 q2 q3
  obtain ⟨k0, s1, s2⟩ := SN
  have hW : Z.Warmed39 T'.vm := State.Warmed39.trans (t := s.setVm vm0) hZ hS.1
  have hSn : own_Sn s T'.vm T'.heap := ⟨_, s1.trans hS (Nat.le_trans s2 (by rw [← eT]; exact hgr)), Nat.le_refl _⟩
  have hf : T'.vm.findClass own = some m.cls := by rw [hS.1.alike.findClass]; exact hown
  exact own_tr stp (k v T' T'.vm _ L X' rfl hW hf hSn (CHr.trans A q4) (by rw [← eT]; exact hgr) hQ)
theorem own_callMW (X : Stand p l e R (s.setVm vm0) m args below meth c T locs cells slots) (hx : p.tables.exec = Jvm.exec) (hby : c.code = B) {own : String} {index nl : Nat} {as' : Array Value} {cc ss maxL : Nat} {bytes : ByteArray} {ret : Option FieldType} {rm : Room} {Q : Option Value → Heap → List Loc → Prop} {y : MethodName} (hml : c.maxLocals = nl) (hZ : Z.Warmed39 vm0) (hown : vm0.findClass own = some m.cls) (SN : own_Sn s vm0 h) (A : own_CH Z EL v0 hb0 vm0 h) (w1 : (Jvm.Cond.methodLink own index y).before a0 Z = true) (w2 : (Jvm.Cond.static y).before a0 Z = true) (w3 : (Jvm.Cond.initialized y.cls).before a0 Z = true) (w4 : (Jvm.Cond.code y bytes maxL ret).before a0 Z = true) (hy : y.cls ≠ "java/lang/invoke/MethodHandle" ∧ y.cls ≠ "java/lang/invoke/VarHandle")
    (hEL : EW Z a0 EL) (hM : own_MetW l Z EL y bytes maxL ret rm as' h Q) (W : Nat) (hcc : rm.cells = cc) (hss : rm.slots = ss) (hf : rm.frames + 1 ≤ R.frames) (hl : W + (maxL + 11) + rm.locals ≤ R.locals) (hsz : Ls.size = nl) {argsL rest : List Value} {ps : List FieldType} {r : Option FieldType} (hpd : parseMethodDescriptor y.desc = some ⟨ps, r⟩) (hlen : argsL.length = ps.length) (hst : st = argsL.reverse ++ rest) (hW : (rest.map fun v => v.category).sum ≤ W) (hd : decode B pc = .ok (.invokestatic index, 3)) (hp : pc + 3 = pc') (hargs : argsL.toArray = as') (eT : T.heap = h) (hc : cells + cc ≤ R.cells) (hs : slots + ss ≤ R.slots)
    (k : ∀ (v : Option Value) (T' : State) (vm1 : Vm) (h' : Heap) (L : List Loc), Stand p l e R (s.setVm vm1) m args below meth c T' (locs ++ L) (cells + cc) (slots + ss) → T'.heap = h' → Z.Warmed39 vm1 → vm1.findClass own = some m.cls → own_Sn s vm1 h' → own_CH Z EL v0 hb0 vm1 h' → h.size ≤ h'.size → Q v h' L → own_E p.tables e below G (T'.setTop (mkF m pc' Ls (v.toList ++ rest)))) : own_E p.tables e below G (T.setTop (mkF m pc Ls st)) := by
  subst hcc hss
  exact own_callSW X hx hby hml hZ hown SN A w1 w2 w3 w4 hy (own_backW hM hZ hEL w4 w3 A hf hl) hsz hpd hlen hst hW hd hp hargs eT hc hs k
theorem own_specMW (X : Stand p l e R (s.setVm vm0) m args below meth c T locs cells slots) (hx : p.tables.exec = Jvm.exec) (hby : c.code = B) {own : String} {index nl : Nat} {as' : Array Value} {cc ss maxL : Nat} {bytes : ByteArray} {rm : Room} {Q : Option Value → Heap → List Loc → Prop} {y : MethodName} (hml : c.maxLocals = nl) (hZ : Z.Warmed39 vm0) (hown : vm0.findClass own = some m.cls) (SN : own_Sn s vm0 h) (A : own_CH Z EL v0 hb0 vm0 h) (hy1 : y.name = "<init>") (w1 : (Jvm.Cond.methodLink own index y).before a0 Z = true) (w2 : (Jvm.Cond.instanceMethod y).before a0 Z = true) (w3 : (Jvm.Cond.initialized y.cls).before a0 Z = true) (w4 : (Jvm.Cond.code y bytes maxL none).before a0 Z = true) (hy : y.cls ≠ "java/lang/invoke/MethodHandle" ∧ y.cls ≠ "java/lang/invoke/VarHandle")
    (hEL : EW Z a0 EL) (hM : own_MetW l Z EL y bytes maxL none rm as' h Q) (W : Nat) (hcc : rm.cells = cc) (hss : rm.slots = ss) (hf : rm.frames + 1 ≤ R.frames) (hl : W + (maxL + 11) + rm.locals ≤ R.locals) (hsz : Ls.size = nl) {a : Addr} {argsL rest : List Value} {ps : List FieldType} {r : Option FieldType} (hpd : parseMethodDescriptor y.desc = some ⟨ps, r⟩) (hlen : argsL.length = ps.length) (hst : st = argsL.reverse ++ .ref a :: rest) (hW : (rest.map fun v => v.category).sum ≤ W) (hd : decode B pc = .ok (.invokespecial index, 3)) (hp : pc + 3 = pc') (hargs : (.ref a :: argsL).toArray = as') (eT : T.heap = h) (hc : cells + cc ≤ R.cells) (hs : slots + ss ≤ R.slots)
    (k : ∀ (v : Option Value) (T' : State) (vm1 : Vm) (h' : Heap) (L : List Loc), Stand p l e R (s.setVm vm1) m args below meth c T' (locs ++ L) (cells + cc) (slots + ss) → T'.heap = h' → Z.Warmed39 vm1 → vm1.findClass own = some m.cls → own_Sn s vm1 h' → own_CH Z EL v0 hb0 vm1 h' → h.size ≤ h'.size → Q v h' L → own_E p.tables e below G (T'.setTop (mkF m pc' Ls (v.toList ++ rest)))) : own_E p.tables e below G (T.setTop (mkF m pc Ls st)) := by
  subst hcc hss
  exact own_specW X hx hby hml hZ hown SN A hy1 w1 w2 w4 hy (own_backW hM hZ hEL w4 w3 A hf hl) hsz hpd hlen hst hW hd hp hargs eT hc hs k
theorem own_virtMW (X : Stand p l e R (s.setVm vm0) m args below meth c T locs cells slots) (hx : p.tables.exec = Jvm.exec) (hby : c.code = B) {own : String} {index nl : Nat} {as' : Array Value} {cc ss maxL : Nat} {bytes : ByteArray} {ret : Option FieldType} {rm : Room} {Q : Option Value → Heap → List Loc → Prop} {C : String} {y z : MethodName} (hml : c.maxLocals = nl) (hZ : Z.Warmed39 vm0) (hown : vm0.findClass own = some m.cls) (SN : own_Sn s vm0 h) (A : own_CH Z EL v0 hb0 vm0 h) (w1 : (Jvm.Cond.methodLink own index y).before a0 Z = true) (w2 : (Jvm.Cond.declares y).before a0 Z = true) (hnf : NotFace (s.setVm vm0) y) (w5 : (Jvm.Cond.selects C y z).before a0 Z = true) (w6 : (Jvm.Cond.instanceMethod z).before a0 Z = true) (w3 : (Jvm.Cond.initialized z.cls).before a0 Z = true) (w4 : (Jvm.Cond.code z bytes maxL ret).before a0 Z = true) (hy : y.cls ≠ "java/lang/invoke/MethodHandle" ∧ y.cls ≠ "java/lang/invoke/VarHandle")
    (hEL : EW Z a0 EL) (hM : own_MetW l Z EL z bytes maxL ret rm as' h Q) (W : Nat) (hcc : rm.cells = cc) (hss : rm.slots = ss) (hf : rm.frames + 1 ≤ R.frames) (hl : W + (maxL + 11) + rm.locals ≤ R.locals) (hsz : Ls.size = nl) {a : Addr} (hE : Exa Z h a C) {argsL rest : List Value} {ps : List FieldType} {r : Option FieldType} (hpd : parseMethodDescriptor y.desc = some ⟨ps, r⟩) (hlen : argsL.length = ps.length) (hst : st = argsL.reverse ++ .ref a :: rest) (hW : (rest.map fun v => v.category).sum ≤ W) (hd : decode B pc = .ok (.invokevirtual index, 3)) (hp : pc + 3 = pc') (hargs : (.ref a :: argsL).toArray = as') (eT : T.heap = h) (hc : cells + cc ≤ R.cells) (hs : slots + ss ≤ R.slots)
    (k : ∀ (v : Option Value) (T' : State) (vm1 : Vm) (h' : Heap) (L : List Loc), Stand p l e R (s.setVm vm1) m args below meth c T' (locs ++ L) (cells + cc) (slots + ss) → T'.heap = h' → Z.Warmed39 vm1 → vm1.findClass own = some m.cls → own_Sn s vm1 h' → own_CH Z EL v0 hb0 vm1 h' → h.size ≤ h'.size → Q v h' L → own_E p.tables e below G (T'.setTop (mkF m pc' Ls (v.toList ++ rest)))) : own_E p.tables e below G (T.setTop (mkF m pc Ls st)) := by
  subst hcc hss
  exact own_virtW X hx hby hml hZ hown SN A w1 w2 hnf w5 w6 hy (own_backW hM hZ hEL w4 w3 A hf hl) hsz hE hpd hlen hst hW hd hp hargs eT hc hs k
theorem own_ldcO (X : Stand p l e R (s.setVm vm0) m args below meth c T locs cells slots) (hx : p.tables.exec = Jvm.exec) (hby : c.code = B) {own text : String} {index : Nat} (hZ : Z.Warmed39 vm0) (hown : vm0.findClass own = some m.cls) (SN : own_Sn s vm0 h) (A : own_CH Z EL v0 hb0 vm0 h) (hEL : EW Z a0 EL) (wS : ∀ a ∈ Bundle.stringAtoms, a.before a0 Z = true) (w : (Cond.stringLink own index text).before a0 Z = true) (eT : T.heap = h) (hd : decode B pc = .ok (.ldc index, 2)) (hp : pc + 2 = pc') {n : Nat} (hn : 4 * text.toList.length ≤ n) (hbig : n ≤ 536870912) (hc : cells + 2 ≤ R.cells) (hl : slots + (n + 4) ≤ R.slots)
    (k : ∀ (T' : State) (vm1 : Vm) (h' : Heap) (a : Addr), Stand p l e R (s.setVm vm1) m args below meth c T' locs (cells + 2) (slots + (n + 4)) → T'.heap = h' → Z.Warmed39 vm1 → vm1.findClass own = some m.cls → own_Sn s vm1 h' → own_CH Z EL v0 hb0 vm1 h' → Ext h h' → own_E p.tables e below G (T'.setTop (mkF m pc' Ls (.ref a :: st)))) : own_E p.tables e below G (T.setTop (mkF m pc Ls st)) := by
  subst hp
  obtain ⟨k0, s1, s2⟩ := SN
  obtain ⟨a, T', h', k1, X', e', E', s3, s4, hW, hf, hC, -, stp⟩ := ldcOH X hx hZ hown w wS eT s1 s2 hEL A.1 (g := mkF m pc Ls st) rfl (hb hby hd) hn hbig hc hl
  exact own_go stp (k T' T'.vm h' a X' e' hW hf ⟨k1, s3, s4⟩ (CHr.trans A hC) E')
theorem own_ldcC (X : Stand p l e R (s.setVm vm0) m args below meth c T locs cells slots) (hx : p.tables.exec = Jvm.exec) (hby : c.code = B) {own text : String} {index : Nat} (hZ : Z.Warmed39 vm0) (hown : vm0.findClass own = some m.cls) (SN : own_Sn s vm0 h) (A : own_CH Z EL v0 hb0 vm0 h) (hEL : EW Z a0 EL) (wS : ∀ a ∈ Bundle.stringAtoms, a.before a0 Z = true) (w : (Cond.stringLink own index text).before a0 Z = true) (eT : T.heap = h) (hd : decode B pc = .ok (.ldc index, 2)) (hp : pc + 2 = pc') {n : Nat} (hn : 4 * text.toList.length ≤ n) (hbig : n ≤ 536870912) (hc : cells + 2 ≤ R.cells) (hl : slots + (n + 4) ≤ R.slots) (hmem : (own, index) ∈ EL) (cs : List Int32) (ht : (∀ c ∈ text.toList, c.toNat < 256) ∧ text.toList.map (fun c => Value.int (Jvm.Lit.byteI c.toNat.toUInt16)) = (cs.map (fun c => c.toInt8.toInt32)).map Value.int) (hcs : ∀ c ∈ cs, ¬ c < 0 ∧ ¬ (255 : Int32) < c) (hz : ¬ (Int32.ofNat cs.length) < 0) (hlc : (Int32.ofNat cs.length).toNatClampNeg = cs.length)
    (k : ∀ (T' : State) (vm1 : Vm) (h' : Heap) (a : Addr), Stand p l e R (s.setVm vm1) m args below meth c T' locs (cells + 2) (slots + (n + 4)) → T'.heap = h' → Z.Warmed39 vm1 → vm1.findClass own = some m.cls → own_Sn s vm1 h' → own_CH Z EL v0 hb0 vm1 h' → Ext h h' → own_Str Z h' a cs → own_E p.tables e below G (T'.setTop (mkF m pc' Ls (.ref a :: st)))) : own_E p.tables e below G (T.setTop (mkF m pc Ls st)) := by
  subst hp
  obtain ⟨k0, s1, s2⟩ := SN
  obtain ⟨a, T', h', k1, b, kb, X', e', E', s3, s4, hW, hf, t1, t2, t3, t4, -, -, hC, -, -, stp⟩ := ldcCH X hx hZ hown w wS eT s1 s2 hEL hmem A.1 ht hz (by rw [hlc]; simp) (g := mkF m pc Ls st) rfl (hb hby hd) hn hbig hc hl
  exact own_go stp (k T' T'.vm h' a X' e' hW hf ⟨k1, s3, s4⟩ (CHr.trans A hC) E' ⟨t1, t2, hcs, b, kb, t3, t4⟩)
theorem own_safe_null {x : Addr} (hal : Z.vm.Alike vm0) (E : Exa Z h x "java/lang/String") (F : Fld Z h x "java/lang/String" "value" "[B" .null) (wi : (Jvm.Cond.instantiable "java/lang/String" 4).before a0 Z = true) : Safe Z EL vm0 h x := fun Bq => by
  obtain ⟨pp, -, u, a, -, q, -, Fq, hx⟩ := Bq
  obtain ⟨cS, ⟨⟨s1, s2, s3, ⟨cv, kv, iv, s4, s4'⟩, s5, s6, s7, s8, s9, s10, s11, s12, -⟩, hfS, hcS⟩, -⟩ := Fq
  obtain ⟨cell, cf, k, i, f, g1, g2, g3, g4, g5, g6, g7⟩ := F
  rcases hx with rfl | rfl
  · cases (show h[q.sa]? = some q.sC from s1).symm.trans g1
    obtain ⟨k', e1⟩ := ff_back (U := Wst Z vm0 h) hal s4
    cases e1.symm.trans g2
    rw [s8] at g7; cases g7
  · obtain ⟨c2, k2, e1, e2, e3, e4, -⟩ := E
    cases (show h[q.sd]? = some q.SA from s10).symm.trans e1
    obtain ⟨-, kB, hkB, compB, hkindB⟩ := s11
    obtain ⟨c3, k3, i1, i2, i3, -⟩ := Cond.instantiable_spec wi
    cases e2.symm.trans i1
    obtain ⟨k4, j1, j2⟩ := hal.2.2 _ _ i2
    cases (show vm0.classes[q.SA.cls]? = some kB from hkB).symm.trans j1
    rw [j2, show k3.kind = .ordinary from i3] at hkindB; cases hkindB
end OwnWide

section OwnUp
variable {p : Program} {l : Launch} {e : Env} {R : Room} {s : State} {m : MethodId} {args : Array Value} {below : List Frame} {meth : Method} {c : Code} {T : State} {locs : List Loc} {cells slots : Nat} {G : State → Outcome → Prop} {B : ByteArray} {pc pc' : Nat} {Ls Ls' : Array Slot} {st : List Value} {Z : State} {a0 : Array Value} {h h' h'' : Heap}
theorem own_upM (X : Stand p l e R s m args below meth c T locs cells slots) (hx : p.tables.exec = Jvm.exec) (hby : c.code = B) {own : String} {index nl : Nat} {as' : Array Value} {cc ss maxL : Nat} {bytes : ByteArray} {ret : Option FieldType} {rm : Room} {Q : Option Value → Heap → List Loc → Prop} {C owner : String} {y z : MethodName} (hml : c.maxLocals = nl) (hZ : Z.Warmed39 s.vm) (hown : s.vm.findClass own = some m.cls) (w1 : (Jvm.Cond.methodLink own index y).before args s = true) (w8 : (Jvm.Cond.sameMethod y.cls owner y.name y.desc).before args s = true) (w2 : (Jvm.Cond.declares ⟨owner, y.name, y.desc⟩).before args s = true) (hy : owner ≠ "java/lang/invoke/MethodHandle" ∧ owner ≠ "java/lang/invoke/VarHandle") (w5 : (Jvm.Cond.selects C y z).before args s = true) (w6 : (Jvm.Cond.instanceMethod z).before args s = true) (w3 : (Jvm.Cond.initialized z.cls).before a0 Z = true) (w4 : (Jvm.Cond.code z bytes maxL ret).before a0 Z = true)
    (hM : own_Met l Z z bytes maxL ret rm as' h Q) (W : Nat) (hcc : rm.cells = cc) (hss : rm.slots = ss) (hf : rm.frames + 1 ≤ R.frames) (hl : W + (maxL + 11) + rm.locals ≤ R.locals) (hsz : Ls.size = nl) {a : Addr} (hE : Exa Z h a C) {argsL rest : List Value} {ps : List FieldType} {r : Option FieldType} (hpd : parseMethodDescriptor y.desc = some ⟨ps, r⟩) (hlen : argsL.length = ps.length) (hst : st = argsL.reverse ++ .ref a :: rest) (hW : (rest.map fun v => v.category).sum ≤ W) (hd : decode B pc = .ok (.invokevirtual index, 3)) (hp : pc + 3 = pc') (hargs : (.ref a :: argsL).toArray = as') (eT : T.heap = h) (hc : cells + cc ≤ R.cells) (hs : slots + ss ≤ R.slots)
    (k : ∀ (v : Option Value) (T' : State) (h' : Heap) (L : List Loc), Stand p l e R s m args below meth c T' (locs ++ L) (cells + cc) (slots + ss) → T'.heap = h' → Q v h' L → own_E p.tables e below G (T'.setTop (mkF m pc' Ls (v.toList ++ rest)))) : own_E p.tables e below G (T.setTop (mkF m pc Ls st)) := by
  subst hcc hss hp
  obtain ⟨cq, kq, qa, qb, qc⟩ := isOf hZ eT hE
  obtain ⟨v, vm₁, ⟨T', L', k', n'⟩, -, X', ⟨L, hQ, q1, q2, q3⟩, stp⟩ := X.virtualBackUp hx hown w1 w8 w2 hy w5 w6 (own_back hM hZ w4 w3 hf hl) qa qc (g := mkF m pc Ls st) rfl (by rw [hml]; exact hsz) (Steps.refl _) (argsL := argsL) (rest := rest) (lenOf hpd hlen) hst (by show 2 * 0 + _ ≤ _; rw [Nat.mul_zero, Nat.zero_add]; exact hW) (hb hby hd) (fun _ _ => ⟨hargs, eT, hc, hs⟩)
  dsimp only at X' hQ q1 q2 q3 stp
  subst q1 q2 q3
  exact own_tr stp (k v T' _ L X' rfl hQ)
end OwnUp

theorem own_hws {Z : State} {a0 : Array Value} (hw : ∀ d ∈ tables_1, d.before a0 Z = true) : ∀ d ∈ StrChars.Road.words, d.before a0 Z = true := fun d hd => hw d ((by decide +kernel : ∀ d ∈ StrChars.Road.words, d ∈ tables_1) d hd)
theorem own_hweq {Z : State} {a0 : Array Value} (hw : ∀ d ∈ tables_1, d.before a0 Z = true) : ∀ d ∈ StrChars.Road.wordsEq, d.before a0 Z = true := fun d hd => hw d ((by decide +kernel : ∀ d ∈ StrChars.Road.wordsEq, d ∈ tables_1) d hd)
def own_Nm (Z : State) (h : Heap) (a : Addr) (cs : List Int32) : Prop := own_Str Z h a cs ∧ cs.length ≤ 7
theorem own_Nm.ext {Z : State} {h h' : Heap} {a : Addr} {cs : List Int32} (O : own_Nm Z h a cs) (E : Ext h h') : own_Nm Z h' a cs := ⟨O.1.ext E, O.2⟩
theorem own_wide {c : Int32} (h : ¬ (255 : Int32) < c) : ¬ (65535 : Int32) < c := by
  rw [Int32.lt_iff_toInt_lt] at *
  have e0 : (255 : Int32).toInt = 255 := rfl
  have e1 : (65535 : Int32).toInt = 65535 := rfl
  omega
theorem own_len {t : Term} {s : State} {args : Array Value} {a : Addr} {c : Cell} {v : Value} (ht : t.eval args s none [] s = some (.ref a)) (ha : s.arrayAt? a = some c) (h : (Term.length t).eval args s none [] s = some v) : c.slots.size < 2 ^ 31 ∧ v = .int c.slots.size.toInt32 := by
  by_cases q : c.slots.size < 2 ^ 31
  · exact ⟨q, by rw [len_f ht ha q] at h; exact (Option.some.inj h).symm⟩
  · exfalso; simp [Term.eval, ht, ha] at h; omega
theorem own_emptyT {s : State} {args : Array Value} {t : Term} {ge : Addr} (ev : t.eval args s none [] s = some (.ref ge)) (wa : (Jvm.Cond.arrayOf t (.object "java/lang/Object")).before args s = true) (we : (Jvm.Cond.eq (.length t) (.int (0 : Int32))).before args s = true) :
    ∃ ke : ClassId, Arv s s.heap ge ke (.object "java/lang/Object") (0 : Int32) [] .null := by
  obtain ⟨c, A⟩ := Arr.start ev (Cond.before_iff.mp wa)
  obtain ⟨x, y, e1, e2, -⟩ := cmp_v (Or.inl (Cond.before_iff.mp we))
  have q := Cond.before_iff.mp we
  have ha : s.arrayAt? ge = some c := A.fin (Vm.Alike.refl _)
  obtain ⟨e5, e6⟩ := own_len ev ha e1
  subst e6
  have hsz : c.slots.size = 0 := by
    have hv := gotT (Cond.eq_ints e1 (Term.int_eval (0 : Int32))) q
    have := len_toInt e5
    rw [hv] at this
    have e0 : (0 : Int32).toInt = 0 := rfl
    omega
  exact ⟨c.cls, c, A, rfl, by rw [hsz]; rfl, by decide, fun k hk => by omega, fun k hk => by omega⟩
theorem own_eqL {t : Term} {s : State} {args : Array Value} {z : Int64} (h : (Jvm.Cond.eq t (.long z)).value args s none s [] = some true) : t.eval args s none [] s = some (.long z) := by
  simp only [Cond.value, Term.eval] at h
  cases ht : t.eval args s none [] s with
  | none => simp [ht] at h
  | some x => cases x <;> simp [ht] at h ⊢ <;> exact h
theorem own_eqI {t : Term} {s : State} {args : Array Value} {z : Int32} (h : (Jvm.Cond.eq t (.int z)).value args s none s [] = some true) : t.eval args s none [] s = some (.int z) := by
  simp only [Cond.value, Term.eval] at h
  cases ht : t.eval args s none [] s with
  | none => simp [ht] at h
  | some x => cases x <;> simp [ht] at h ⊢ <;> exact h
theorem own_lit {q : Int32} (n : Int32) (e : q.toInt = n.toInt) : q = n := Int32.toInt_inj.mp e
theorem own_len6 {y q : Int32} (h : (y &&& (2147483647 : Int32)) % (6 : Int32) = q) : q = 0 ∨ q = 1 ∨ q = 2 ∨ q = 3 ∨ q = 4 ∨ q = 5 := by
  have h0 := (c_and y 2147483647 (by decide)).1
  have h1 := (c_irem (y &&& 2147483647) 6 6 (by decide)).1 h0
  rw [h] at h1
  have : q.toInt = 0 ∨ q.toInt = 1 ∨ q.toInt = 2 ∨ q.toInt = 3 ∨ q.toInt = 4 ∨ q.toInt = 5 := by omega
  rcases this with e | e | e | e | e | e
  · exact Or.inl (own_lit 0 e)
  · exact Or.inr (Or.inl (own_lit 1 e))
  · exact Or.inr (Or.inr (Or.inl (own_lit 2 e)))
  · exact Or.inr (Or.inr (Or.inr (Or.inl (own_lit 3 e))))
  · exact Or.inr (Or.inr (Or.inr (Or.inr (Or.inl (own_lit 4 e)))))
  · exact Or.inr (Or.inr (Or.inr (Or.inr (Or.inr (own_lit 5 e)))))
theorem ow_0 {Z : State} {a0 : Array Value} (hw : ∀ d ∈ tables_1, d.before a0 Z = true) : (Jvm.Cond.constant "com/example/structured_data_crawler/structureddatacrawler/crawl/RobotsRulesAllowAllPinLaw" (7 : Nat) (2147483647 : Int32)).before a0 Z = true := hw _ (List.mem_of_getElem? (i := 0) rfl)
theorem ow_1 {Z : State} {a0 : Array Value} (hw : ∀ d ∈ tables_1, d.before a0 Z = true) : (Jvm.Cond.methodLink "com/example/structured_data_crawler/structureddatacrawler/crawl/RobotsRulesAllowAllPinLaw" (8 : Nat) ({ cls := "com/example/structured_data_crawler/structureddatacrawler/crawl/RobotsRulesAllowAllPinLaw", name := "make", desc := "(ICCCCC)Ljava/lang/String;" } : Jvm.MethodName)).before a0 Z = true := hw _ (List.mem_of_getElem? (i := 1) rfl)
theorem ow_2 {Z : State} {a0 : Array Value} (hw : ∀ d ∈ tables_1, d.before a0 Z = true) : (Jvm.Cond.static ({ cls := "com/example/structured_data_crawler/structureddatacrawler/crawl/RobotsRulesAllowAllPinLaw", name := "make", desc := "(ICCCCC)Ljava/lang/String;" } : Jvm.MethodName)).before a0 Z = true := hw _ (List.mem_of_getElem? (i := 2) rfl)
theorem ow_3 {Z : State} {a0 : Array Value} (hw : ∀ d ∈ tables_1, d.before a0 Z = true) : (Jvm.Cond.initialized "com/example/structured_data_crawler/structureddatacrawler/crawl/RobotsRulesAllowAllPinLaw").before a0 Z = true := hw _ (List.mem_of_getElem? (i := 3) rfl)
theorem ow_4 {Z : State} {a0 : Array Value} (hw : ∀ d ∈ tables_1, d.before a0 Z = true) : (Jvm.Cond.code ({ cls := "com/example/structured_data_crawler/structureddatacrawler/crawl/RobotsRulesAllowAllPinLaw", name := "make", desc := "(ICCCCC)Ljava/lang/String;" } : Jvm.MethodName) method_3_code (7 : Nat) (Option.some (Jvm.ClassFile.FieldType.object "java/lang/String"))).before a0 Z = true := hw _ (List.mem_of_getElem? (i := 4) rfl)
theorem ow_5 {Z : State} {a0 : Array Value} (hw : ∀ d ∈ tables_1, d.before a0 Z = true) : (Jvm.Cond.arrayClass Jvm.ClassFile.FieldType.char).before a0 Z = true := hw _ (List.mem_of_getElem? (i := 5) rfl)
theorem ow_6 {Z : State} {a0 : Array Value} (hw : ∀ d ∈ tables_1, d.before a0 Z = true) : (Jvm.Cond.classLink "com/example/structured_data_crawler/structureddatacrawler/crawl/RobotsRulesAllowAllPinLaw" (34 : Nat) "java/lang/String").before a0 Z = true := hw _ (List.mem_of_getElem? (i := 6) rfl)
theorem ow_7 {Z : State} {a0 : Array Value} (hw : ∀ d ∈ tables_1, d.before a0 Z = true) : (Jvm.Cond.instantiable "java/lang/String" (4 : Nat)).before a0 Z = true := hw _ (List.mem_of_getElem? (i := 7) rfl)
theorem ow_8 {Z : State} {a0 : Array Value} (hw : ∀ d ∈ tables_1, d.before a0 Z = true) : (Jvm.Cond.initialized "java/lang/String").before a0 Z = true := hw _ (List.mem_of_getElem? (i := 8) rfl)
theorem ow_9 {Z : State} {a0 : Array Value} (hw : ∀ d ∈ tables_1, d.before a0 Z = true) : (Jvm.Cond.methodLink "com/example/structured_data_crawler/structureddatacrawler/crawl/RobotsRulesAllowAllPinLaw" (36 : Nat) ({ cls := "java/lang/String", name := "<init>", desc := "([C)V" } : Jvm.MethodName)).before a0 Z = true := hw _ (List.mem_of_getElem? (i := 9) rfl)
theorem ow_10 {Z : State} {a0 : Array Value} (hw : ∀ d ∈ tables_1, d.before a0 Z = true) : (Jvm.Cond.instanceMethod ({ cls := "java/lang/String", name := "<init>", desc := "([C)V" } : Jvm.MethodName)).before a0 Z = true := hw _ (List.mem_of_getElem? (i := 10) rfl)
theorem ow_11 {Z : State} {a0 : Array Value} (hw : ∀ d ∈ tables_1, d.before a0 Z = true) : (Jvm.Cond.code ({ cls := "java/lang/String", name := "<init>", desc := "([C)V" } : Jvm.MethodName) jdk_42_method_3_code (2 : Nat) (Option.none : Option Jvm.ClassFile.FieldType)).before a0 Z = true := hw _ (List.mem_of_getElem? (i := 11) rfl)
theorem ow_12 {Z : State} {a0 : Array Value} (hw : ∀ d ∈ tables_1, d.before a0 Z = true) : (Jvm.Cond.methodLink "java/lang/String" (27 : Nat) ({ cls := "java/lang/String", name := "<init>", desc := "([CIILjava/lang/Void;)V" } : Jvm.MethodName)).before a0 Z = true := hw _ (List.mem_of_getElem? (i := 12) rfl)
theorem ow_13 {Z : State} {a0 : Array Value} (hw : ∀ d ∈ tables_1, d.before a0 Z = true) : (Jvm.Cond.instanceMethod ({ cls := "java/lang/String", name := "<init>", desc := "([CIILjava/lang/Void;)V" } : Jvm.MethodName)).before a0 Z = true := hw _ (List.mem_of_getElem? (i := 13) rfl)
theorem ow_15 {Z : State} {a0 : Array Value} (hw : ∀ d ∈ tables_1, d.before a0 Z = true) : (Jvm.Cond.code ({ cls := "java/lang/String", name := "<init>", desc := "([CIILjava/lang/Void;)V" } : Jvm.MethodName) jdk_42_method_149_code (6 : Nat) (Option.none : Option Jvm.ClassFile.FieldType)).before a0 Z = true := hw _ (List.mem_of_getElem? (i := 15) rfl)
theorem ow_16 {Z : State} {a0 : Array Value} (hw : ∀ d ∈ tables_1, d.before a0 Z = true) : (Jvm.Cond.methodLink "java/lang/String" (1 : Nat) ({ cls := "java/lang/Object", name := "<init>", desc := "()V" } : Jvm.MethodName)).before a0 Z = true := hw _ (List.mem_of_getElem? (i := 16) rfl)
theorem ow_17 {Z : State} {a0 : Array Value} (hw : ∀ d ∈ tables_1, d.before a0 Z = true) : (Jvm.Cond.instanceMethod ({ cls := "java/lang/Object", name := "<init>", desc := "()V" } : Jvm.MethodName)).before a0 Z = true := hw _ (List.mem_of_getElem? (i := 17) rfl)
theorem ow_18 {Z : State} {a0 : Array Value} (hw : ∀ d ∈ tables_1, d.before a0 Z = true) : (Jvm.Cond.code ({ cls := "java/lang/Object", name := "<init>", desc := "()V" } : Jvm.MethodName) object_method_1_code (1 : Nat) (Option.none : Option Jvm.ClassFile.FieldType)).before a0 Z = true := hw _ (List.mem_of_getElem? (i := 18) rfl)
theorem ow_19 {Z : State} {a0 : Array Value} (hw : ∀ d ∈ tables_1, d.before a0 Z = true) : (Jvm.Cond.fieldLink "java/lang/String" (38 : Nat) "java/lang/String" "COMPACT_STRINGS" "Z").before a0 Z = true := hw _ (List.mem_of_getElem? (i := 19) rfl)
theorem ow_24 {Z : State} {a0 : Array Value} (hw : ∀ d ∈ tables_1, d.before a0 Z = true) : (Jvm.Cond.arrayClass Jvm.ClassFile.FieldType.byte).before a0 Z = true := hw _ (List.mem_of_getElem? (i := 24) rfl)
theorem ow_31 {Z : State} {a0 : Array Value} (hw : ∀ d ∈ tables_1, d.before a0 Z = true) : (Jvm.Cond.fieldLink "java/lang/String" (15 : Nat) "java/lang/String" "coder" "B").before a0 Z = true := hw _ (List.mem_of_getElem? (i := 31) rfl)
theorem ow_32 {Z : State} {a0 : Array Value} (hw : ∀ d ∈ tables_1, d.before a0 Z = true) : (Jvm.Cond.laysFinal "java/lang/String" "java/lang/String" "coder" "B").before a0 Z = true := hw _ (List.mem_of_getElem? (i := 32) rfl)
theorem ow_33 {Z : State} {a0 : Array Value} (hw : ∀ d ∈ tables_1, d.before a0 Z = true) : (Jvm.Cond.fieldLink "java/lang/String" (9 : Nat) "java/lang/String" "value" "[B").before a0 Z = true := hw _ (List.mem_of_getElem? (i := 33) rfl)
theorem ow_34 {Z : State} {a0 : Array Value} (hw : ∀ d ∈ tables_1, d.before a0 Z = true) : (Jvm.Cond.laysFinal "java/lang/String" "java/lang/String" "value" "[B").before a0 Z = true := hw _ (List.mem_of_getElem? (i := 34) rfl)
theorem ow_35 {Z : State} {a0 : Array Value} (hw : ∀ d ∈ tables_1, d.before a0 Z = true) : (Jvm.Cond.methodLink "com/example/structured_data_crawler/structureddatacrawler/crawl/RobotsRulesAllowAllPinLaw" (14 : Nat) ({ cls := "com/example/structured_data_crawler/structureddatacrawler/crawl/RobotsRules", name := "allowAll", desc := "()Lcom/example/structured_data_crawler/structureddatacrawler/crawl/RobotsRules;" } : Jvm.MethodName)).before a0 Z = true := hw _ (List.mem_of_getElem? (i := 35) rfl)
theorem ow_36 {Z : State} {a0 : Array Value} (hw : ∀ d ∈ tables_1, d.before a0 Z = true) : (Jvm.Cond.static ({ cls := "com/example/structured_data_crawler/structureddatacrawler/crawl/RobotsRules", name := "allowAll", desc := "()Lcom/example/structured_data_crawler/structureddatacrawler/crawl/RobotsRules;" } : Jvm.MethodName)).before a0 Z = true := hw _ (List.mem_of_getElem? (i := 36) rfl)
theorem ow_37 {Z : State} {a0 : Array Value} (hw : ∀ d ∈ tables_1, d.before a0 Z = true) : (Jvm.Cond.initialized "com/example/structured_data_crawler/structureddatacrawler/crawl/RobotsRules").before a0 Z = true := hw _ (List.mem_of_getElem? (i := 37) rfl)
theorem ow_38 {Z : State} {a0 : Array Value} (hw : ∀ d ∈ tables_1, d.before a0 Z = true) : (Jvm.Cond.code ({ cls := "com/example/structured_data_crawler/structureddatacrawler/crawl/RobotsRules", name := "allowAll", desc := "()Lcom/example/structured_data_crawler/structureddatacrawler/crawl/RobotsRules;" } : Jvm.MethodName) prog_10_method_3_code (0 : Nat) (Option.some (Jvm.ClassFile.FieldType.object "com/example/structured_data_crawler/structureddatacrawler/crawl/RobotsRules"))).before a0 Z = true := hw _ (List.mem_of_getElem? (i := 38) rfl)
theorem ow_39 {Z : State} {a0 : Array Value} (hw : ∀ d ∈ tables_1, d.before a0 Z = true) : (Jvm.Cond.classLink "com/example/structured_data_crawler/structureddatacrawler/crawl/RobotsRules" (1 : Nat) "com/example/structured_data_crawler/structureddatacrawler/crawl/RobotsRules").before a0 Z = true := hw _ (List.mem_of_getElem? (i := 39) rfl)
theorem ow_40 {Z : State} {a0 : Array Value} (hw : ∀ d ∈ tables_1, d.before a0 Z = true) : (Jvm.Cond.instantiable "com/example/structured_data_crawler/structureddatacrawler/crawl/RobotsRules" (2 : Nat)).before a0 Z = true := hw _ (List.mem_of_getElem? (i := 40) rfl)
theorem ow_41 {Z : State} {a0 : Array Value} (hw : ∀ d ∈ tables_1, d.before a0 Z = true) : (Jvm.Cond.methodLink "com/example/structured_data_crawler/structureddatacrawler/crawl/RobotsRules" (33 : Nat) ({ cls := "java/util/List", name := "of", desc := "()Ljava/util/List;" } : Jvm.MethodName)).before a0 Z = true := hw _ (List.mem_of_getElem? (i := 41) rfl)
theorem ow_42 {Z : State} {a0 : Array Value} (hw : ∀ d ∈ tables_1, d.before a0 Z = true) : (Jvm.Cond.static ({ cls := "java/util/List", name := "of", desc := "()Ljava/util/List;" } : Jvm.MethodName)).before a0 Z = true := hw _ (List.mem_of_getElem? (i := 42) rfl)
theorem ow_43 {Z : State} {a0 : Array Value} (hw : ∀ d ∈ tables_1, d.before a0 Z = true) : (Jvm.Cond.initialized "java/util/List").before a0 Z = true := hw _ (List.mem_of_getElem? (i := 43) rfl)
theorem ow_44 {Z : State} {a0 : Array Value} (hw : ∀ d ∈ tables_1, d.before a0 Z = true) : (Jvm.Cond.code ({ cls := "java/util/List", name := "of", desc := "()Ljava/util/List;" } : Jvm.MethodName) jdk_40_method_36_code (0 : Nat) (Option.some (Jvm.ClassFile.FieldType.object "java/util/List"))).before a0 Z = true := hw _ (List.mem_of_getElem? (i := 44) rfl)
theorem ow_45 {Z : State} {a0 : Array Value} (hw : ∀ d ∈ tables_1, d.before a0 Z = true) : (Jvm.Cond.fieldLink "java/util/List" (90 : Nat) "java/util/ImmutableCollections" "EMPTY_LIST" "Ljava/util/ImmutableCollections$ListN;").before a0 Z = true := hw _ (List.mem_of_getElem? (i := 45) rfl)
theorem ow_47 {Z : State} {a0 : Array Value} (hw : ∀ d ∈ tables_1, d.before a0 Z = true) : (Jvm.Cond.fieldLink "com/example/structured_data_crawler/structureddatacrawler/crawl/RobotsRules" (39 : Nat) "java/time/Duration" "ZERO" "Ljava/time/Duration;").before a0 Z = true := hw _ (List.mem_of_getElem? (i := 47) rfl)
theorem ow_48 {Z : State} {a0 : Array Value} (hw : ∀ d ∈ tables_1, d.before a0 Z = true) : (Jvm.Cond.initialized "java/time/Duration").before a0 Z = true := hw _ (List.mem_of_getElem? (i := 48) rfl)
theorem ow_49 {Z : State} {a0 : Array Value} (hw : ∀ d ∈ tables_1, d.before a0 Z = true) : (Jvm.Cond.methodLink "com/example/structured_data_crawler/structureddatacrawler/crawl/RobotsRules" (44 : Nat) ({ cls := "com/example/structured_data_crawler/structureddatacrawler/crawl/RobotsRules", name := "<init>", desc := "(Ljava/util/List;Ljava/time/Duration;)V" } : Jvm.MethodName)).before a0 Z = true := hw _ (List.mem_of_getElem? (i := 49) rfl)
theorem ow_50 {Z : State} {a0 : Array Value} (hw : ∀ d ∈ tables_1, d.before a0 Z = true) : (Jvm.Cond.instanceMethod ({ cls := "com/example/structured_data_crawler/structureddatacrawler/crawl/RobotsRules", name := "<init>", desc := "(Ljava/util/List;Ljava/time/Duration;)V" } : Jvm.MethodName)).before a0 Z = true := hw _ (List.mem_of_getElem? (i := 50) rfl)
theorem ow_51 {Z : State} {a0 : Array Value} (hw : ∀ d ∈ tables_1, d.before a0 Z = true) : (Jvm.Cond.code ({ cls := "com/example/structured_data_crawler/structureddatacrawler/crawl/RobotsRules", name := "<init>", desc := "(Ljava/util/List;Ljava/time/Duration;)V" } : Jvm.MethodName) prog_10_method_1_code (3 : Nat) (Option.none : Option Jvm.ClassFile.FieldType)).before a0 Z = true := hw _ (List.mem_of_getElem? (i := 51) rfl)
theorem ow_52 {Z : State} {a0 : Array Value} (hw : ∀ d ∈ tables_1, d.before a0 Z = true) : (Jvm.Cond.methodLink "com/example/structured_data_crawler/structureddatacrawler/crawl/RobotsRules" (3 : Nat) ({ cls := "java/lang/Object", name := "<init>", desc := "()V" } : Jvm.MethodName)).before a0 Z = true := hw _ (List.mem_of_getElem? (i := 52) rfl)
theorem ow_53 {Z : State} {a0 : Array Value} (hw : ∀ d ∈ tables_1, d.before a0 Z = true) : (Jvm.Cond.fieldLink "com/example/structured_data_crawler/structureddatacrawler/crawl/RobotsRules" (9 : Nat) "com/example/structured_data_crawler/structureddatacrawler/crawl/RobotsRules" "rules" "Ljava/util/List;").before a0 Z = true := hw _ (List.mem_of_getElem? (i := 53) rfl)
theorem ow_54 {Z : State} {a0 : Array Value} (hw : ∀ d ∈ tables_1, d.before a0 Z = true) : (Jvm.Cond.laysFinal "com/example/structured_data_crawler/structureddatacrawler/crawl/RobotsRules" "com/example/structured_data_crawler/structureddatacrawler/crawl/RobotsRules" "rules" "Ljava/util/List;").before a0 Z = true := hw _ (List.mem_of_getElem? (i := 54) rfl)
theorem ow_55 {Z : State} {a0 : Array Value} (hw : ∀ d ∈ tables_1, d.before a0 Z = true) : (Jvm.Cond.fieldLink "com/example/structured_data_crawler/structureddatacrawler/crawl/RobotsRules" (13 : Nat) "com/example/structured_data_crawler/structureddatacrawler/crawl/RobotsRules" "crawlDelay" "Ljava/time/Duration;").before a0 Z = true := hw _ (List.mem_of_getElem? (i := 55) rfl)
theorem ow_56 {Z : State} {a0 : Array Value} (hw : ∀ d ∈ tables_1, d.before a0 Z = true) : (Jvm.Cond.laysFinal "com/example/structured_data_crawler/structureddatacrawler/crawl/RobotsRules" "com/example/structured_data_crawler/structureddatacrawler/crawl/RobotsRules" "crawlDelay" "Ljava/time/Duration;").before a0 Z = true := hw _ (List.mem_of_getElem? (i := 56) rfl)
theorem ow_57 {Z : State} {a0 : Array Value} (hw : ∀ d ∈ tables_1, d.before a0 Z = true) : (Jvm.Cond.methodLink "com/example/structured_data_crawler/structureddatacrawler/crawl/RobotsRulesAllowAllPinLaw" (20 : Nat) ({ cls := "com/example/structured_data_crawler/structureddatacrawler/crawl/RobotsRules", name := "allows", desc := "(Ljava/lang/String;)Z" } : Jvm.MethodName)).before a0 Z = true := hw _ (List.mem_of_getElem? (i := 57) rfl)
theorem ow_58 {Z : State} {a0 : Array Value} (hw : ∀ d ∈ tables_1, d.before a0 Z = true) : (Jvm.Cond.declares ({ cls := "com/example/structured_data_crawler/structureddatacrawler/crawl/RobotsRules", name := "allows", desc := "(Ljava/lang/String;)Z" } : Jvm.MethodName)).before a0 Z = true := hw _ (List.mem_of_getElem? (i := 58) rfl)
theorem ow_59 {Z : State} {a0 : Array Value} (hw : ∀ d ∈ tables_1, d.before a0 Z = true) : (Jvm.Cond.instanceMethod ({ cls := "com/example/structured_data_crawler/structureddatacrawler/crawl/RobotsRules", name := "allows", desc := "(Ljava/lang/String;)Z" } : Jvm.MethodName)).before a0 Z = true := hw _ (List.mem_of_getElem? (i := 59) rfl)
theorem ow_60 {Z : State} {a0 : Array Value} (hw : ∀ d ∈ tables_1, d.before a0 Z = true) : (Jvm.Cond.selects "com/example/structured_data_crawler/structureddatacrawler/crawl/RobotsRules" ({ cls := "com/example/structured_data_crawler/structureddatacrawler/crawl/RobotsRules", name := "allows", desc := "(Ljava/lang/String;)Z" } : Jvm.MethodName) ({ cls := "com/example/structured_data_crawler/structureddatacrawler/crawl/RobotsRules", name := "allows", desc := "(Ljava/lang/String;)Z" } : Jvm.MethodName)).before a0 Z = true := hw _ (List.mem_of_getElem? (i := 60) rfl)
theorem ow_61 {Z : State} {a0 : Array Value} (hw : ∀ d ∈ tables_1, d.before a0 Z = true) : (Jvm.Cond.code ({ cls := "com/example/structured_data_crawler/structureddatacrawler/crawl/RobotsRules", name := "allows", desc := "(Ljava/lang/String;)Z" } : Jvm.MethodName) prog_10_method_7_code (5 : Nat) (Option.some Jvm.ClassFile.FieldType.boolean)).before a0 Z = true := hw _ (List.mem_of_getElem? (i := 61) rfl)
theorem ow_62 {Z : State} {a0 : Array Value} (hw : ∀ d ∈ tables_1, d.before a0 Z = true) : (Jvm.Cond.methodLink "com/example/structured_data_crawler/structureddatacrawler/crawl/RobotsRules" (161 : Nat) ({ cls := "java/util/List", name := "iterator", desc := "()Ljava/util/Iterator;" } : Jvm.MethodName)).before a0 Z = true := hw _ (List.mem_of_getElem? (i := 62) rfl)
theorem ow_63 {Z : State} {a0 : Array Value} (hw : ∀ d ∈ tables_1, d.before a0 Z = true) : (Jvm.Cond.declares ({ cls := "java/util/List", name := "iterator", desc := "()Ljava/util/Iterator;" } : Jvm.MethodName)).before a0 Z = true := hw _ (List.mem_of_getElem? (i := 63) rfl)
theorem ow_64 {Z : State} {a0 : Array Value} (hw : ∀ d ∈ tables_1, d.before a0 Z = true) : (Jvm.Cond.interfaceMethod "java/util/List" "java/util/List" "iterator" "()Ljava/util/Iterator;").before a0 Z = true := hw _ (List.mem_of_getElem? (i := 64) rfl)
theorem ow_65 {Z : State} {a0 : Array Value} (hw : ∀ d ∈ tables_1, d.before a0 Z = true) : (Jvm.Cond.selects "java/util/ImmutableCollections$ListN" ({ cls := "java/util/List", name := "iterator", desc := "()Ljava/util/Iterator;" } : Jvm.MethodName) ({ cls := "java/util/ImmutableCollections$AbstractImmutableList", name := "iterator", desc := "()Ljava/util/Iterator;" } : Jvm.MethodName)).before a0 Z = true := hw _ (List.mem_of_getElem? (i := 65) rfl)
theorem ow_66 {Z : State} {a0 : Array Value} (hw : ∀ d ∈ tables_1, d.before a0 Z = true) : (Jvm.Cond.instanceMethod ({ cls := "java/util/ImmutableCollections$AbstractImmutableList", name := "iterator", desc := "()Ljava/util/Iterator;" } : Jvm.MethodName)).before a0 Z = true := hw _ (List.mem_of_getElem? (i := 66) rfl)
theorem ow_67 {Z : State} {a0 : Array Value} (hw : ∀ d ∈ tables_1, d.before a0 Z = true) : (Jvm.Cond.publicMethod ({ cls := "java/util/ImmutableCollections$AbstractImmutableList", name := "iterator", desc := "()Ljava/util/Iterator;" } : Jvm.MethodName)).before a0 Z = true := hw _ (List.mem_of_getElem? (i := 67) rfl)
theorem ow_68 {Z : State} {a0 : Array Value} (hw : ∀ d ∈ tables_1, d.before a0 Z = true) : (Jvm.Cond.unhidden "java/util/ImmutableCollections$ListN" "iterator" "()Ljava/util/Iterator;").before a0 Z = true := hw _ (List.mem_of_getElem? (i := 68) rfl)
theorem ow_69 {Z : State} {a0 : Array Value} (hw : ∀ d ∈ tables_1, d.before a0 Z = true) : (Jvm.Cond.castable "java/util/ImmutableCollections$ListN" "java/util/List").before a0 Z = true := hw _ (List.mem_of_getElem? (i := 69) rfl)
theorem ow_70 {Z : State} {a0 : Array Value} (hw : ∀ d ∈ tables_1, d.before a0 Z = true) : (Jvm.Cond.initialized "java/util/ImmutableCollections$AbstractImmutableList").before a0 Z = true := hw _ (List.mem_of_getElem? (i := 70) rfl)
theorem ow_71 {Z : State} {a0 : Array Value} (hw : ∀ d ∈ tables_1, d.before a0 Z = true) : (Jvm.Cond.code ({ cls := "java/util/ImmutableCollections$AbstractImmutableList", name := "iterator", desc := "()Ljava/util/Iterator;" } : Jvm.MethodName) jdk_46_method_10_code (1 : Nat) (Option.some (Jvm.ClassFile.FieldType.object "java/util/Iterator"))).before a0 Z = true := hw _ (List.mem_of_getElem? (i := 71) rfl)
theorem ow_72 {Z : State} {a0 : Array Value} (hw : ∀ d ∈ tables_1, d.before a0 Z = true) : (Jvm.Cond.classLink "java/util/ImmutableCollections$AbstractImmutableList" (61 : Nat) "java/util/ImmutableCollections$ListItr").before a0 Z = true := hw _ (List.mem_of_getElem? (i := 72) rfl)
theorem ow_73 {Z : State} {a0 : Array Value} (hw : ∀ d ∈ tables_1, d.before a0 Z = true) : (Jvm.Cond.instantiable "java/util/ImmutableCollections$ListItr" (4 : Nat)).before a0 Z = true := hw _ (List.mem_of_getElem? (i := 73) rfl)
theorem ow_74 {Z : State} {a0 : Array Value} (hw : ∀ d ∈ tables_1, d.before a0 Z = true) : (Jvm.Cond.initialized "java/util/ImmutableCollections$ListItr").before a0 Z = true := hw _ (List.mem_of_getElem? (i := 74) rfl)
theorem ow_75 {Z : State} {a0 : Array Value} (hw : ∀ d ∈ tables_1, d.before a0 Z = true) : (Jvm.Cond.methodLink "java/util/ImmutableCollections$AbstractImmutableList" (13 : Nat) ({ cls := "java/util/ImmutableCollections$AbstractImmutableList", name := "size", desc := "()I" } : Jvm.MethodName)).before a0 Z = true := hw _ (List.mem_of_getElem? (i := 75) rfl)
theorem ow_76 {Z : State} {a0 : Array Value} (hw : ∀ d ∈ tables_1, d.before a0 Z = true) : (Jvm.Cond.sameMethod "java/util/ImmutableCollections$AbstractImmutableList" "java/util/AbstractCollection" "size" "()I").before a0 Z = true := hw _ (List.mem_of_getElem? (i := 76) rfl)
theorem ow_77 {Z : State} {a0 : Array Value} (hw : ∀ d ∈ tables_1, d.before a0 Z = true) : (Jvm.Cond.declares ({ cls := "java/util/AbstractCollection", name := "size", desc := "()I" } : Jvm.MethodName)).before a0 Z = true := hw _ (List.mem_of_getElem? (i := 77) rfl)
theorem ow_78 {Z : State} {a0 : Array Value} (hw : ∀ d ∈ tables_1, d.before a0 Z = true) : (Jvm.Cond.selects "java/util/ImmutableCollections$ListN" ({ cls := "java/util/ImmutableCollections$AbstractImmutableList", name := "size", desc := "()I" } : Jvm.MethodName) ({ cls := "java/util/ImmutableCollections$ListN", name := "size", desc := "()I" } : Jvm.MethodName)).before a0 Z = true := hw _ (List.mem_of_getElem? (i := 78) rfl)
theorem ow_79 {Z : State} {a0 : Array Value} (hw : ∀ d ∈ tables_1, d.before a0 Z = true) : (Jvm.Cond.instanceMethod ({ cls := "java/util/ImmutableCollections$ListN", name := "size", desc := "()I" } : Jvm.MethodName)).before a0 Z = true := hw _ (List.mem_of_getElem? (i := 79) rfl)
theorem ow_80 {Z : State} {a0 : Array Value} (hw : ∀ d ∈ tables_1, d.before a0 Z = true) : (Jvm.Cond.initialized "java/util/ImmutableCollections$ListN").before a0 Z = true := hw _ (List.mem_of_getElem? (i := 80) rfl)
theorem ow_81 {Z : State} {a0 : Array Value} (hw : ∀ d ∈ tables_1, d.before a0 Z = true) : (Jvm.Cond.code ({ cls := "java/util/ImmutableCollections$ListN", name := "size", desc := "()I" } : Jvm.MethodName) jdk_45_method_3_code (1 : Nat) (Option.some Jvm.ClassFile.FieldType.int)).before a0 Z = true := hw _ (List.mem_of_getElem? (i := 81) rfl)
theorem ow_82 {Z : State} {a0 : Array Value} (hw : ∀ d ∈ tables_1, d.before a0 Z = true) : (Jvm.Cond.fieldLink "java/util/ImmutableCollections$ListN" (7 : Nat) "java/util/ImmutableCollections$ListN" "elements" "[Ljava/lang/Object;").before a0 Z = true := hw _ (List.mem_of_getElem? (i := 82) rfl)
theorem ow_84 {Z : State} {a0 : Array Value} (hw : ∀ d ∈ tables_1, d.before a0 Z = true) : (Jvm.Cond.methodLink "java/util/ImmutableCollections$AbstractImmutableList" (63 : Nat) ({ cls := "java/util/ImmutableCollections$ListItr", name := "<init>", desc := "(Ljava/util/List;I)V" } : Jvm.MethodName)).before a0 Z = true := hw _ (List.mem_of_getElem? (i := 84) rfl)
theorem ow_85 {Z : State} {a0 : Array Value} (hw : ∀ d ∈ tables_1, d.before a0 Z = true) : (Jvm.Cond.instanceMethod ({ cls := "java/util/ImmutableCollections$ListItr", name := "<init>", desc := "(Ljava/util/List;I)V" } : Jvm.MethodName)).before a0 Z = true := hw _ (List.mem_of_getElem? (i := 85) rfl)
theorem ow_87 {Z : State} {a0 : Array Value} (hw : ∀ d ∈ tables_1, d.before a0 Z = true) : (Jvm.Cond.code ({ cls := "java/util/ImmutableCollections$ListItr", name := "<init>", desc := "(Ljava/util/List;I)V" } : Jvm.MethodName) jdk_53_method_1_code (3 : Nat) (Option.none : Option Jvm.ClassFile.FieldType)).before a0 Z = true := hw _ (List.mem_of_getElem? (i := 87) rfl)
theorem ow_88 {Z : State} {a0 : Array Value} (hw : ∀ d ∈ tables_1, d.before a0 Z = true) : (Jvm.Cond.methodLink "java/util/ImmutableCollections$ListItr" (1 : Nat) ({ cls := "java/lang/Object", name := "<init>", desc := "()V" } : Jvm.MethodName)).before a0 Z = true := hw _ (List.mem_of_getElem? (i := 88) rfl)
theorem ow_89 {Z : State} {a0 : Array Value} (hw : ∀ d ∈ tables_1, d.before a0 Z = true) : (Jvm.Cond.fieldLink "java/util/ImmutableCollections$ListItr" (7 : Nat) "java/util/ImmutableCollections$ListItr" "list" "Ljava/util/List;").before a0 Z = true := hw _ (List.mem_of_getElem? (i := 89) rfl)
theorem ow_90 {Z : State} {a0 : Array Value} (hw : ∀ d ∈ tables_1, d.before a0 Z = true) : (Jvm.Cond.laysFinal "java/util/ImmutableCollections$ListItr" "java/util/ImmutableCollections$ListItr" "list" "Ljava/util/List;").before a0 Z = true := hw _ (List.mem_of_getElem? (i := 90) rfl)
theorem ow_91 {Z : State} {a0 : Array Value} (hw : ∀ d ∈ tables_1, d.before a0 Z = true) : (Jvm.Cond.fieldLink "java/util/ImmutableCollections$ListItr" (13 : Nat) "java/util/ImmutableCollections$ListItr" "size" "I").before a0 Z = true := hw _ (List.mem_of_getElem? (i := 91) rfl)
theorem ow_92 {Z : State} {a0 : Array Value} (hw : ∀ d ∈ tables_1, d.before a0 Z = true) : (Jvm.Cond.laysFinal "java/util/ImmutableCollections$ListItr" "java/util/ImmutableCollections$ListItr" "size" "I").before a0 Z = true := hw _ (List.mem_of_getElem? (i := 92) rfl)
theorem ow_93 {Z : State} {a0 : Array Value} (hw : ∀ d ∈ tables_1, d.before a0 Z = true) : (Jvm.Cond.fieldLink "java/util/ImmutableCollections$ListItr" (17 : Nat) "java/util/ImmutableCollections$ListItr" "cursor" "I").before a0 Z = true := hw _ (List.mem_of_getElem? (i := 93) rfl)
theorem ow_94 {Z : State} {a0 : Array Value} (hw : ∀ d ∈ tables_1, d.before a0 Z = true) : (Jvm.Cond.lays "java/util/ImmutableCollections$ListItr" "java/util/ImmutableCollections$ListItr" "cursor" "I").before a0 Z = true := hw _ (List.mem_of_getElem? (i := 94) rfl)
theorem ow_95 {Z : State} {a0 : Array Value} (hw : ∀ d ∈ tables_1, d.before a0 Z = true) : (Jvm.Cond.fieldLink "java/util/ImmutableCollections$ListItr" (20 : Nat) "java/util/ImmutableCollections$ListItr" "isListIterator" "Z").before a0 Z = true := hw _ (List.mem_of_getElem? (i := 95) rfl)
theorem ow_96 {Z : State} {a0 : Array Value} (hw : ∀ d ∈ tables_1, d.before a0 Z = true) : (Jvm.Cond.laysFinal "java/util/ImmutableCollections$ListItr" "java/util/ImmutableCollections$ListItr" "isListIterator" "Z").before a0 Z = true := hw _ (List.mem_of_getElem? (i := 96) rfl)
theorem ow_97 {Z : State} {a0 : Array Value} (hw : ∀ d ∈ tables_1, d.before a0 Z = true) : (Jvm.Cond.methodLink "com/example/structured_data_crawler/structureddatacrawler/crawl/RobotsRules" (165 : Nat) ({ cls := "java/util/Iterator", name := "hasNext", desc := "()Z" } : Jvm.MethodName)).before a0 Z = true := hw _ (List.mem_of_getElem? (i := 97) rfl)
theorem ow_98 {Z : State} {a0 : Array Value} (hw : ∀ d ∈ tables_1, d.before a0 Z = true) : (Jvm.Cond.declares ({ cls := "java/util/Iterator", name := "hasNext", desc := "()Z" } : Jvm.MethodName)).before a0 Z = true := hw _ (List.mem_of_getElem? (i := 98) rfl)
theorem ow_99 {Z : State} {a0 : Array Value} (hw : ∀ d ∈ tables_1, d.before a0 Z = true) : (Jvm.Cond.interfaceMethod "java/util/Iterator" "java/util/Iterator" "hasNext" "()Z").before a0 Z = true := hw _ (List.mem_of_getElem? (i := 99) rfl)
theorem ow_100 {Z : State} {a0 : Array Value} (hw : ∀ d ∈ tables_1, d.before a0 Z = true) : (Jvm.Cond.selects "java/util/ImmutableCollections$ListItr" ({ cls := "java/util/Iterator", name := "hasNext", desc := "()Z" } : Jvm.MethodName) ({ cls := "java/util/ImmutableCollections$ListItr", name := "hasNext", desc := "()Z" } : Jvm.MethodName)).before a0 Z = true := hw _ (List.mem_of_getElem? (i := 100) rfl)
theorem ow_101 {Z : State} {a0 : Array Value} (hw : ∀ d ∈ tables_1, d.before a0 Z = true) : (Jvm.Cond.instanceMethod ({ cls := "java/util/ImmutableCollections$ListItr", name := "hasNext", desc := "()Z" } : Jvm.MethodName)).before a0 Z = true := hw _ (List.mem_of_getElem? (i := 101) rfl)
theorem ow_102 {Z : State} {a0 : Array Value} (hw : ∀ d ∈ tables_1, d.before a0 Z = true) : (Jvm.Cond.publicMethod ({ cls := "java/util/ImmutableCollections$ListItr", name := "hasNext", desc := "()Z" } : Jvm.MethodName)).before a0 Z = true := hw _ (List.mem_of_getElem? (i := 102) rfl)
theorem ow_103 {Z : State} {a0 : Array Value} (hw : ∀ d ∈ tables_1, d.before a0 Z = true) : (Jvm.Cond.unhidden "java/util/ImmutableCollections$ListItr" "hasNext" "()Z").before a0 Z = true := hw _ (List.mem_of_getElem? (i := 103) rfl)
theorem ow_104 {Z : State} {a0 : Array Value} (hw : ∀ d ∈ tables_1, d.before a0 Z = true) : (Jvm.Cond.castable "java/util/ImmutableCollections$ListItr" "java/util/Iterator").before a0 Z = true := hw _ (List.mem_of_getElem? (i := 104) rfl)
theorem ow_105 {Z : State} {a0 : Array Value} (hw : ∀ d ∈ tables_1, d.before a0 Z = true) : (Jvm.Cond.code ({ cls := "java/util/ImmutableCollections$ListItr", name := "hasNext", desc := "()Z" } : Jvm.MethodName) jdk_53_method_3_code (1 : Nat) (Option.some Jvm.ClassFile.FieldType.boolean)).before a0 Z = true := hw _ (List.mem_of_getElem? (i := 105) rfl)
theorem ow_106 {Z : State} {a0 : Array Value} (hw : ∀ d ∈ tables_1, d.before a0 Z = true) : (Jvm.Cond.stringLink "com/example/structured_data_crawler/structureddatacrawler/crawl/RobotsRules" (183 : Nat) "/robots.txt").before a0 Z = true := hw _ (List.mem_of_getElem? (i := 106) rfl)
theorem ow_109 {Z : State} {a0 : Array Value} (hw : ∀ d ∈ tables_1, d.before a0 Z = true) : (Jvm.Cond.methodLink "com/example/structured_data_crawler/structureddatacrawler/crawl/RobotsRules" (185 : Nat) ({ cls := "java/lang/String", name := "equals", desc := "(Ljava/lang/Object;)Z" } : Jvm.MethodName)).before a0 Z = true := hw _ (List.mem_of_getElem? (i := 109) rfl)
theorem ow_110 {Z : State} {a0 : Array Value} (hw : ∀ d ∈ tables_1, d.before a0 Z = true) : (Jvm.Cond.declares ({ cls := "java/lang/String", name := "equals", desc := "(Ljava/lang/Object;)Z" } : Jvm.MethodName)).before a0 Z = true := hw _ (List.mem_of_getElem? (i := 110) rfl)
theorem ow_111 {Z : State} {a0 : Array Value} (hw : ∀ d ∈ tables_1, d.before a0 Z = true) : (Jvm.Cond.instanceMethod ({ cls := "java/lang/String", name := "equals", desc := "(Ljava/lang/Object;)Z" } : Jvm.MethodName)).before a0 Z = true := hw _ (List.mem_of_getElem? (i := 111) rfl)
theorem ow_112 {Z : State} {a0 : Array Value} (hw : ∀ d ∈ tables_1, d.before a0 Z = true) : (Jvm.Cond.selects "java/lang/String" ({ cls := "java/lang/String", name := "equals", desc := "(Ljava/lang/Object;)Z" } : Jvm.MethodName) ({ cls := "java/lang/String", name := "equals", desc := "(Ljava/lang/Object;)Z" } : Jvm.MethodName)).before a0 Z = true := hw _ (List.mem_of_getElem? (i := 112) rfl)
theorem ow_114 {Z : State} {a0 : Array Value} (hw : ∀ d ∈ tables_1, d.before a0 Z = true) : (Jvm.Cond.classLink "java/lang/String" (10 : Nat) "java/lang/String").before a0 Z = true := hw _ (List.mem_of_getElem? (i := 114) rfl)
theorem ow_117 {Z : State} {a0 : Array Value} (hw : ∀ d ∈ tables_1, d.before a0 Z = true) : (Jvm.Cond.initialized "java/lang/StringLatin1").before a0 Z = true := hw _ (List.mem_of_getElem? (i := 117) rfl)
theorem ow_119 {Z : State} {a0 : Array Value} (hw : ∀ d ∈ tables_1, d.before a0 Z = true) : (Jvm.Cond.methodLink "com/example/structured_data_crawler/structureddatacrawler/crawl/RobotsRulesAllowAllPinLaw" (24 : Nat) ({ cls := "com/example/structured_data_crawler/structureddatacrawler/crawl/RobotsRules", name := "crawlDelay", desc := "()Ljava/time/Duration;" } : Jvm.MethodName)).before a0 Z = true := hw _ (List.mem_of_getElem? (i := 119) rfl)
theorem ow_120 {Z : State} {a0 : Array Value} (hw : ∀ d ∈ tables_1, d.before a0 Z = true) : (Jvm.Cond.declares ({ cls := "com/example/structured_data_crawler/structureddatacrawler/crawl/RobotsRules", name := "crawlDelay", desc := "()Ljava/time/Duration;" } : Jvm.MethodName)).before a0 Z = true := hw _ (List.mem_of_getElem? (i := 120) rfl)
theorem ow_121 {Z : State} {a0 : Array Value} (hw : ∀ d ∈ tables_1, d.before a0 Z = true) : (Jvm.Cond.instanceMethod ({ cls := "com/example/structured_data_crawler/structureddatacrawler/crawl/RobotsRules", name := "crawlDelay", desc := "()Ljava/time/Duration;" } : Jvm.MethodName)).before a0 Z = true := hw _ (List.mem_of_getElem? (i := 121) rfl)
theorem ow_122 {Z : State} {a0 : Array Value} (hw : ∀ d ∈ tables_1, d.before a0 Z = true) : (Jvm.Cond.selects "com/example/structured_data_crawler/structureddatacrawler/crawl/RobotsRules" ({ cls := "com/example/structured_data_crawler/structureddatacrawler/crawl/RobotsRules", name := "crawlDelay", desc := "()Ljava/time/Duration;" } : Jvm.MethodName) ({ cls := "com/example/structured_data_crawler/structureddatacrawler/crawl/RobotsRules", name := "crawlDelay", desc := "()Ljava/time/Duration;" } : Jvm.MethodName)).before a0 Z = true := hw _ (List.mem_of_getElem? (i := 122) rfl)
theorem ow_123 {Z : State} {a0 : Array Value} (hw : ∀ d ∈ tables_1, d.before a0 Z = true) : (Jvm.Cond.code ({ cls := "com/example/structured_data_crawler/structureddatacrawler/crawl/RobotsRules", name := "crawlDelay", desc := "()Ljava/time/Duration;" } : Jvm.MethodName) prog_10_method_8_code (1 : Nat) (Option.some (Jvm.ClassFile.FieldType.object "java/time/Duration"))).before a0 Z = true := hw _ (List.mem_of_getElem? (i := 123) rfl)
theorem ow_124 {Z : State} {a0 : Array Value} (hw : ∀ d ∈ tables_1, d.before a0 Z = true) : (Jvm.Cond.methodLink "com/example/structured_data_crawler/structureddatacrawler/crawl/RobotsRulesAllowAllPinLaw" (28 : Nat) ({ cls := "java/time/Duration", name := "isZero", desc := "()Z" } : Jvm.MethodName)).before a0 Z = true := hw _ (List.mem_of_getElem? (i := 124) rfl)
theorem ow_125 {Z : State} {a0 : Array Value} (hw : ∀ d ∈ tables_1, d.before a0 Z = true) : (Jvm.Cond.declares ({ cls := "java/time/Duration", name := "isZero", desc := "()Z" } : Jvm.MethodName)).before a0 Z = true := hw _ (List.mem_of_getElem? (i := 125) rfl)
theorem ow_126 {Z : State} {a0 : Array Value} (hw : ∀ d ∈ tables_1, d.before a0 Z = true) : (Jvm.Cond.instanceMethod ({ cls := "java/time/Duration", name := "isZero", desc := "()Z" } : Jvm.MethodName)).before a0 Z = true := hw _ (List.mem_of_getElem? (i := 126) rfl)
theorem ow_127 {Z : State} {a0 : Array Value} (hw : ∀ d ∈ tables_1, d.before a0 Z = true) : (Jvm.Cond.selects "java/time/Duration" ({ cls := "java/time/Duration", name := "isZero", desc := "()Z" } : Jvm.MethodName) ({ cls := "java/time/Duration", name := "isZero", desc := "()Z" } : Jvm.MethodName)).before a0 Z = true := hw _ (List.mem_of_getElem? (i := 127) rfl)
theorem ow_128 {Z : State} {a0 : Array Value} (hw : ∀ d ∈ tables_1, d.before a0 Z = true) : (Jvm.Cond.code ({ cls := "java/time/Duration", name := "isZero", desc := "()Z" } : Jvm.MethodName) jdk_2316_method_21_code (1 : Nat) (Option.some Jvm.ClassFile.FieldType.boolean)).before a0 Z = true := hw _ (List.mem_of_getElem? (i := 128) rfl)
theorem ow_129 {Z : State} {a0 : Array Value} (hw : ∀ d ∈ tables_1, d.before a0 Z = true) : (Jvm.Cond.fieldLink "java/time/Duration" (221 : Nat) "java/time/Duration" "seconds" "J").before a0 Z = true := hw _ (List.mem_of_getElem? (i := 129) rfl)
theorem ow_131 {Z : State} {a0 : Array Value} (hw : ∀ d ∈ tables_1, d.before a0 Z = true) : (Jvm.Cond.fieldLink "java/time/Duration" (224 : Nat) "java/time/Duration" "nanos" "I").before a0 Z = true := hw _ (List.mem_of_getElem? (i := 131) rfl)
theorem ow_133 {Z : State} {a0 : Array Value} (hw : ∀ d ∈ tables_1, d.before a0 Z = true) : (Jvm.Cond.methodLink "com/example/structured_data_crawler/structureddatacrawler/crawl/RobotsRulesAllowAllPinLaw" (39 : Nat) ({ cls := "java/lang/String", name := "valueOf", desc := "(C)Ljava/lang/String;" } : Jvm.MethodName)).before a0 Z = true := hw _ (List.mem_of_getElem? (i := 133) rfl)
theorem ow_134 {Z : State} {a0 : Array Value} (hw : ∀ d ∈ tables_1, d.before a0 Z = true) : (Jvm.Cond.static ({ cls := "java/lang/String", name := "valueOf", desc := "(C)Ljava/lang/String;" } : Jvm.MethodName)).before a0 Z = true := hw _ (List.mem_of_getElem? (i := 134) rfl)
theorem ow_135 {Z : State} {a0 : Array Value} (hw : ∀ d ∈ tables_1, d.before a0 Z = true) : (Jvm.Cond.code ({ cls := "java/lang/String", name := "valueOf", desc := "(C)Ljava/lang/String;" } : Jvm.MethodName) jdk_42_method_139_code (1 : Nat) (Option.some (Jvm.ClassFile.FieldType.object "java/lang/String"))).before a0 Z = true := hw _ (List.mem_of_getElem? (i := 135) rfl)
theorem ow_136 {Z : State} {a0 : Array Value} (hw : ∀ d ∈ tables_1, d.before a0 Z = true) : (Jvm.Cond.methodLink "java/lang/String" (1015 : Nat) ({ cls := "java/lang/StringLatin1", name := "canEncode", desc := "(C)Z" } : Jvm.MethodName)).before a0 Z = true := hw _ (List.mem_of_getElem? (i := 136) rfl)
theorem ow_137 {Z : State} {a0 : Array Value} (hw : ∀ d ∈ tables_1, d.before a0 Z = true) : (Jvm.Cond.static ({ cls := "java/lang/StringLatin1", name := "canEncode", desc := "(C)Z" } : Jvm.MethodName)).before a0 Z = true := hw _ (List.mem_of_getElem? (i := 137) rfl)
theorem ow_138 {Z : State} {a0 : Array Value} (hw : ∀ d ∈ tables_1, d.before a0 Z = true) : (Jvm.Cond.code ({ cls := "java/lang/StringLatin1", name := "canEncode", desc := "(C)Z" } : Jvm.MethodName) jdk_43_method_3_code (1 : Nat) (Option.some Jvm.ClassFile.FieldType.boolean)).before a0 Z = true := hw _ (List.mem_of_getElem? (i := 138) rfl)
theorem ow_139 {Z : State} {a0 : Array Value} (hw : ∀ d ∈ tables_1, d.before a0 Z = true) : (Jvm.Cond.methodLink "java/lang/String" (1018 : Nat) ({ cls := "java/lang/StringLatin1", name := "toBytes", desc := "(C)[B" } : Jvm.MethodName)).before a0 Z = true := hw _ (List.mem_of_getElem? (i := 139) rfl)
theorem ow_140 {Z : State} {a0 : Array Value} (hw : ∀ d ∈ tables_1, d.before a0 Z = true) : (Jvm.Cond.static ({ cls := "java/lang/StringLatin1", name := "toBytes", desc := "(C)[B" } : Jvm.MethodName)).before a0 Z = true := hw _ (List.mem_of_getElem? (i := 140) rfl)
theorem ow_141 {Z : State} {a0 : Array Value} (hw : ∀ d ∈ tables_1, d.before a0 Z = true) : (Jvm.Cond.code ({ cls := "java/lang/StringLatin1", name := "toBytes", desc := "(C)[B" } : Jvm.MethodName) jdk_43_method_46_code (1 : Nat) (Option.some (Jvm.ClassFile.FieldType.array Jvm.ClassFile.FieldType.byte))).before a0 Z = true := hw _ (List.mem_of_getElem? (i := 141) rfl)
theorem ow_142 {Z : State} {a0 : Array Value} (hw : ∀ d ∈ tables_1, d.before a0 Z = true) : (Jvm.Cond.methodLink "java/lang/String" (209 : Nat) ({ cls := "java/lang/String", name := "<init>", desc := "([BB)V" } : Jvm.MethodName)).before a0 Z = true := hw _ (List.mem_of_getElem? (i := 142) rfl)
theorem ow_143 {Z : State} {a0 : Array Value} (hw : ∀ d ∈ tables_1, d.before a0 Z = true) : (Jvm.Cond.instanceMethod ({ cls := "java/lang/String", name := "<init>", desc := "([BB)V" } : Jvm.MethodName)).before a0 Z = true := hw _ (List.mem_of_getElem? (i := 143) rfl)
theorem ow_144 {Z : State} {a0 : Array Value} (hw : ∀ d ∈ tables_1, d.before a0 Z = true) : (Jvm.Cond.code ({ cls := "java/lang/String", name := "<init>", desc := "([BB)V" } : Jvm.MethodName) jdk_42_method_151_code (3 : Nat) (Option.none : Option Jvm.ClassFile.FieldType)).before a0 Z = true := hw _ (List.mem_of_getElem? (i := 144) rfl)
theorem ow_145 {Z : State} {a0 : Array Value} (hw : ∀ d ∈ tables_1, d.before a0 Z = true) : (Jvm.Cond.stringLink "java/lang/String" (7 : Nat) "").before a0 Z = true := hw _ (List.mem_of_getElem? (i := 145) rfl)
abbrev own_EL : List (String × Nat) := [("com/example/structured_data_crawler/structureddatacrawler/crawl/RobotsRules", 183), ("java/lang/String", 7)]
theorem own_ew {Z : State} {a0 : Array Value} (hw : ∀ d ∈ tables_1, d.before a0 Z = true) : EW Z a0 own_EL := (EW.cons (ow_106 hw) (by decide) (EW.cons (ow_145 hw) (by decide) EW.nil))
theorem own_ws {Z : State} {a0 : Array Value} (hw : ∀ d ∈ tables_1, d.before a0 Z = true) : ∀ a ∈ Bundle.stringAtoms, a.before a0 Z = true := fun d hd => hw d ((by decide +kernel : ∀ d ∈ Bundle.stringAtoms, d ∈ tables_1) d hd)
def own_EqQ (cs ds : List Int32) (h : Heap) (v : Option Value) (h' : Heap) (L : List Loc) : Prop := ((v = some (.int 1) ∧ cs = ds) ∨ (v = some (.int 0) ∧ ¬ cs = ds)) ∧ L = [] ∧ h' = h
theorem own_eqB {p : Program} {l : Launch} {e : Env} {R : Room} {s : State} {args : Array Value} {below : List Frame} {len W : Nat} {Z : State} {a0 : Array Value} {h : Heap} (hZ : Z.Warmed39 s.vm) (hw : ∀ d ∈ tables_1, d.before a0 Z = true) {x y : Addr} {cs ds : List Int32} (Sx : own_Str Z h x cs) (lx : cs.length ≤ 4000) (Sy : own_Str Z h y ds) (ly : ds.length ≤ 4000)
    {z : Int32} (S : Sta Z h "java/lang/String" "COMPACT_STRINGS" "Z" (.int z)) (hz : ¬ z = 0) (hfr : 2 ≤ R.frames) (hlo : W + 28 ≤ R.locals) :
    Back l R p e below s args (⟨"java/lang/String", "equals", "(Ljava/lang/Object;)Z"⟩ : MethodName) len W (fun P a => a = #[.ref x, .ref y] ∧ P.U.heap = h ∧ P.cells + 0 ≤ R.cells ∧ P.slots + 0 ≤ R.slots)
      (fun P _ v B => ∃ L, own_EqQ cs ds h v B.U.heap L ∧ B.locs = P.locs ++ L ∧ B.cells = P.cells + 0 ∧ B.slots = P.slots + 0) := by
  obtain ⟨A, C, hp, t, kb, V, K⟩ := Sx
  obtain ⟨A', C', hp', t', kb', V', K'⟩ := Sy
  exact StrChars.Road.eqW hZ (own_hweq hw) (ow_7 hw) A V C K (Or.inl ⟨rfl, rfl, List.map_map, fun c hc => (hp c hc).2⟩) (fun c hc => ⟨(hp c hc).1, own_wide (hp c hc).2⟩) lx A' V' C' K' (Or.inl ⟨rfl, rfl, List.map_map, fun c hc => (hp' c hc).2⟩) (fun c hc => ⟨(hp' c hc).1, own_wide (hp' c hc).2⟩) ly S hz hfr hlo
theorem od_jdk_43_method_3_0 : decode jdk_43_method_3_code 0 = .ok (.iload_n 0, 1) := by decide +kernel
theorem od_jdk_43_method_3_1 : decode jdk_43_method_3_code 1 = .ok (.sipush 255, 3) := by decide +kernel
theorem od_jdk_43_method_3_4 : decode jdk_43_method_3_code 4 = .ok (.if_icmp .gt 7, 3) := by decide +kernel
theorem od_jdk_43_method_3_7 : decode jdk_43_method_3_code 7 = .ok (.iconst 1, 1) := by decide +kernel
theorem od_jdk_43_method_3_8 : decode jdk_43_method_3_code 8 = .ok (.goto 4, 3) := by decide +kernel
theorem od_jdk_43_method_3_12 : decode jdk_43_method_3_code 12 = .ok (.ireturn, 1) := by decide +kernel
theorem od_jdk_43_method_46_0 : decode jdk_43_method_46_code 0 = .ok (.iconst 1, 1) := by decide +kernel
theorem od_jdk_43_method_46_1 : decode jdk_43_method_46_code 1 = .ok (.newarray .byte, 2) := by decide +kernel
theorem od_jdk_43_method_46_3 : decode jdk_43_method_46_code 3 = .ok (.dup, 1) := by decide +kernel
theorem od_jdk_43_method_46_4 : decode jdk_43_method_46_code 4 = .ok (.iconst 0, 1) := by decide +kernel
theorem od_jdk_43_method_46_5 : decode jdk_43_method_46_code 5 = .ok (.iload_n 0, 1) := by decide +kernel
theorem od_jdk_43_method_46_6 : decode jdk_43_method_46_code 6 = .ok (.i2b, 1) := by decide +kernel
theorem od_jdk_43_method_46_7 : decode jdk_43_method_46_code 7 = .ok (.bastore, 1) := by decide +kernel
theorem od_jdk_43_method_46_8 : decode jdk_43_method_46_code 8 = .ok (.areturn, 1) := by decide +kernel
theorem od_jdk_42_method_151_0 : decode jdk_42_method_151_code 0 = .ok (.aload_n 0, 1) := by decide +kernel
theorem od_jdk_42_method_151_1 : decode jdk_42_method_151_code 1 = .ok (.invokespecial 1, 3) := by decide +kernel
theorem od_jdk_42_method_151_4 : decode jdk_42_method_151_code 4 = .ok (.aload_n 0, 1) := by decide +kernel
theorem od_jdk_42_method_151_5 : decode jdk_42_method_151_code 5 = .ok (.aload_n 1, 1) := by decide +kernel
theorem od_jdk_42_method_151_6 : decode jdk_42_method_151_code 6 = .ok (.putfield 9, 3) := by decide +kernel
theorem od_jdk_42_method_151_9 : decode jdk_42_method_151_code 9 = .ok (.aload_n 0, 1) := by decide +kernel
theorem od_jdk_42_method_151_10 : decode jdk_42_method_151_code 10 = .ok (.iload_n 2, 1) := by decide +kernel
theorem od_jdk_42_method_151_11 : decode jdk_42_method_151_code 11 = .ok (.putfield 15, 3) := by decide +kernel
theorem od_jdk_42_method_151_14 : decode jdk_42_method_151_code 14 = .ok (.return_, 1) := by decide +kernel
theorem od_jdk_42_method_139_0 : decode jdk_42_method_139_code 0 = .ok (.getstatic 38, 3) := by decide +kernel
theorem od_jdk_42_method_139_3 : decode jdk_42_method_139_code 3 = .ok (.ifCond .eq 23, 3) := by decide +kernel
theorem od_jdk_42_method_139_6 : decode jdk_42_method_139_code 6 = .ok (.iload_n 0, 1) := by decide +kernel
theorem od_jdk_42_method_139_7 : decode jdk_42_method_139_code 7 = .ok (.invokestatic 1015, 3) := by decide +kernel
theorem od_jdk_42_method_139_10 : decode jdk_42_method_139_code 10 = .ok (.ifCond .eq 16, 3) := by decide +kernel
theorem od_jdk_42_method_139_13 : decode jdk_42_method_139_code 13 = .ok (.new 10, 3) := by decide +kernel
theorem od_jdk_42_method_139_16 : decode jdk_42_method_139_code 16 = .ok (.dup, 1) := by decide +kernel
theorem od_jdk_42_method_139_17 : decode jdk_42_method_139_code 17 = .ok (.iload_n 0, 1) := by decide +kernel
theorem od_jdk_42_method_139_18 : decode jdk_42_method_139_code 18 = .ok (.invokestatic 1018, 3) := by decide +kernel
theorem od_jdk_42_method_139_21 : decode jdk_42_method_139_code 21 = .ok (.iconst 0, 1) := by decide +kernel
theorem od_jdk_42_method_139_22 : decode jdk_42_method_139_code 22 = .ok (.invokespecial 209, 3) := by decide +kernel
theorem od_jdk_42_method_139_25 : decode jdk_42_method_139_code 25 = .ok (.areturn, 1) := by decide +kernel
theorem od_jdk_42_method_149_0 : decode jdk_42_method_149_code 0 = .ok (.aload_n 0, 1) := by decide +kernel
theorem od_jdk_42_method_149_1 : decode jdk_42_method_149_code 1 = .ok (.invokespecial 1, 3) := by decide +kernel
theorem od_jdk_42_method_149_4 : decode jdk_42_method_149_code 4 = .ok (.iload_n 3, 1) := by decide +kernel
theorem od_jdk_42_method_149_5 : decode jdk_42_method_149_code 5 = .ok (.ifCond .ne 22, 3) := by decide +kernel
theorem od_jdk_42_method_149_8 : decode jdk_42_method_149_code 8 = .ok (.aload_n 0, 1) := by decide +kernel
theorem od_jdk_42_method_149_9 : decode jdk_42_method_149_code 9 = .ok (.ldc 7, 2) := by decide +kernel
theorem od_jdk_42_method_149_11 : decode jdk_42_method_149_code 11 = .ok (.getfield 9, 3) := by decide +kernel
theorem od_jdk_42_method_149_14 : decode jdk_42_method_149_code 14 = .ok (.putfield 9, 3) := by decide +kernel
theorem od_jdk_42_method_149_17 : decode jdk_42_method_149_code 17 = .ok (.aload_n 0, 1) := by decide +kernel
theorem od_jdk_42_method_149_18 : decode jdk_42_method_149_code 18 = .ok (.ldc 7, 2) := by decide +kernel
theorem od_jdk_42_method_149_20 : decode jdk_42_method_149_code 20 = .ok (.getfield 15, 3) := by decide +kernel
theorem od_jdk_42_method_149_23 : decode jdk_42_method_149_code 23 = .ok (.putfield 15, 3) := by decide +kernel
theorem od_jdk_42_method_149_26 : decode jdk_42_method_149_code 26 = .ok (.return_, 1) := by decide +kernel
theorem od_jdk_42_method_3_0 : decode jdk_42_method_3_code 0 = .ok (.aload_n 0, 1) := by decide +kernel
theorem od_jdk_42_method_3_1 : decode jdk_42_method_3_code 1 = .ok (.aload_n 1, 1) := by decide +kernel
theorem od_jdk_42_method_3_2 : decode jdk_42_method_3_code 2 = .ok (.iconst 0, 1) := by decide +kernel
theorem od_jdk_42_method_3_3 : decode jdk_42_method_3_code 3 = .ok (.aload_n 1, 1) := by decide +kernel
theorem od_jdk_42_method_3_4 : decode jdk_42_method_3_code 4 = .ok (.arraylength, 1) := by decide +kernel
theorem od_jdk_42_method_3_5 : decode jdk_42_method_3_code 5 = .ok (.aconst_null, 1) := by decide +kernel
theorem od_jdk_42_method_3_6 : decode jdk_42_method_3_code 6 = .ok (.invokespecial 27, 3) := by decide +kernel
theorem od_jdk_42_method_3_9 : decode jdk_42_method_3_code 9 = .ok (.return_, 1) := by decide +kernel
theorem od_jdk_45_method_3_0 : decode jdk_45_method_3_code 0 = .ok (.aload_n 0, 1) := by decide +kernel
theorem od_jdk_45_method_3_1 : decode jdk_45_method_3_code 1 = .ok (.getfield 7, 3) := by decide +kernel
theorem od_jdk_45_method_3_4 : decode jdk_45_method_3_code 4 = .ok (.arraylength, 1) := by decide +kernel
theorem od_jdk_45_method_3_5 : decode jdk_45_method_3_code 5 = .ok (.ireturn, 1) := by decide +kernel
theorem od_jdk_53_method_1_0 : decode jdk_53_method_1_code 0 = .ok (.aload_n 0, 1) := by decide +kernel
theorem od_jdk_53_method_1_1 : decode jdk_53_method_1_code 1 = .ok (.invokespecial 1, 3) := by decide +kernel
theorem od_jdk_53_method_1_4 : decode jdk_53_method_1_code 4 = .ok (.aload_n 0, 1) := by decide +kernel
theorem od_jdk_53_method_1_5 : decode jdk_53_method_1_code 5 = .ok (.aload_n 1, 1) := by decide +kernel
theorem od_jdk_53_method_1_6 : decode jdk_53_method_1_code 6 = .ok (.putfield 7, 3) := by decide +kernel
theorem od_jdk_53_method_1_9 : decode jdk_53_method_1_code 9 = .ok (.aload_n 0, 1) := by decide +kernel
theorem od_jdk_53_method_1_10 : decode jdk_53_method_1_code 10 = .ok (.iload_n 2, 1) := by decide +kernel
theorem od_jdk_53_method_1_11 : decode jdk_53_method_1_code 11 = .ok (.putfield 13, 3) := by decide +kernel
theorem od_jdk_53_method_1_14 : decode jdk_53_method_1_code 14 = .ok (.aload_n 0, 1) := by decide +kernel
theorem od_jdk_53_method_1_15 : decode jdk_53_method_1_code 15 = .ok (.iconst 0, 1) := by decide +kernel
theorem od_jdk_53_method_1_16 : decode jdk_53_method_1_code 16 = .ok (.putfield 17, 3) := by decide +kernel
theorem od_jdk_53_method_1_19 : decode jdk_53_method_1_code 19 = .ok (.aload_n 0, 1) := by decide +kernel
theorem od_jdk_53_method_1_20 : decode jdk_53_method_1_code 20 = .ok (.iconst 0, 1) := by decide +kernel
theorem od_jdk_53_method_1_21 : decode jdk_53_method_1_code 21 = .ok (.putfield 20, 3) := by decide +kernel
theorem od_jdk_53_method_1_24 : decode jdk_53_method_1_code 24 = .ok (.return_, 1) := by decide +kernel
theorem od_jdk_46_method_10_0 : decode jdk_46_method_10_code 0 = .ok (.new 61, 3) := by decide +kernel
theorem od_jdk_46_method_10_3 : decode jdk_46_method_10_code 3 = .ok (.dup, 1) := by decide +kernel
theorem od_jdk_46_method_10_4 : decode jdk_46_method_10_code 4 = .ok (.aload_n 0, 1) := by decide +kernel
theorem od_jdk_46_method_10_5 : decode jdk_46_method_10_code 5 = .ok (.aload_n 0, 1) := by decide +kernel
theorem od_jdk_46_method_10_6 : decode jdk_46_method_10_code 6 = .ok (.invokevirtual 13, 3) := by decide +kernel
theorem od_jdk_46_method_10_9 : decode jdk_46_method_10_code 9 = .ok (.invokespecial 63, 3) := by decide +kernel
theorem od_jdk_46_method_10_12 : decode jdk_46_method_10_code 12 = .ok (.areturn, 1) := by decide +kernel
theorem od_jdk_53_method_3_0 : decode jdk_53_method_3_code 0 = .ok (.aload_n 0, 1) := by decide +kernel
theorem od_jdk_53_method_3_1 : decode jdk_53_method_3_code 1 = .ok (.getfield 17, 3) := by decide +kernel
theorem od_jdk_53_method_3_4 : decode jdk_53_method_3_code 4 = .ok (.aload_n 0, 1) := by decide +kernel
theorem od_jdk_53_method_3_5 : decode jdk_53_method_3_code 5 = .ok (.getfield 13, 3) := by decide +kernel
theorem od_jdk_53_method_3_8 : decode jdk_53_method_3_code 8 = .ok (.if_icmp .eq 7, 3) := by decide +kernel
theorem od_jdk_53_method_3_15 : decode jdk_53_method_3_code 15 = .ok (.iconst 0, 1) := by decide +kernel
theorem od_jdk_53_method_3_16 : decode jdk_53_method_3_code 16 = .ok (.ireturn, 1) := by decide +kernel
theorem od_jdk_40_method_36_0 : decode jdk_40_method_36_code 0 = .ok (.getstatic 90, 3) := by decide +kernel
theorem od_jdk_40_method_36_3 : decode jdk_40_method_36_code 3 = .ok (.areturn, 1) := by decide +kernel
theorem od_prog_10_method_1_0 : decode prog_10_method_1_code 0 = .ok (.aload_n 0, 1) := by decide +kernel
theorem od_prog_10_method_1_1 : decode prog_10_method_1_code 1 = .ok (.invokespecial 3, 3) := by decide +kernel
theorem od_prog_10_method_1_4 : decode prog_10_method_1_code 4 = .ok (.aload_n 0, 1) := by decide +kernel
theorem od_prog_10_method_1_5 : decode prog_10_method_1_code 5 = .ok (.aload_n 1, 1) := by decide +kernel
theorem od_prog_10_method_1_6 : decode prog_10_method_1_code 6 = .ok (.putfield 9, 3) := by decide +kernel
theorem od_prog_10_method_1_9 : decode prog_10_method_1_code 9 = .ok (.aload_n 0, 1) := by decide +kernel
theorem od_prog_10_method_1_10 : decode prog_10_method_1_code 10 = .ok (.aload_n 2, 1) := by decide +kernel
theorem od_prog_10_method_1_11 : decode prog_10_method_1_code 11 = .ok (.putfield 13, 3) := by decide +kernel
theorem od_prog_10_method_1_14 : decode prog_10_method_1_code 14 = .ok (.return_, 1) := by decide +kernel
theorem od_prog_10_method_3_0 : decode prog_10_method_3_code 0 = .ok (.new 1, 3) := by decide +kernel
theorem od_prog_10_method_3_3 : decode prog_10_method_3_code 3 = .ok (.dup, 1) := by decide +kernel
theorem od_prog_10_method_3_4 : decode prog_10_method_3_code 4 = .ok (.invokestatic 33, 3) := by decide +kernel
theorem od_prog_10_method_3_7 : decode prog_10_method_3_code 7 = .ok (.getstatic 39, 3) := by decide +kernel
theorem od_prog_10_method_3_10 : decode prog_10_method_3_code 10 = .ok (.invokespecial 44, 3) := by decide +kernel
theorem od_prog_10_method_3_13 : decode prog_10_method_3_code 13 = .ok (.areturn, 1) := by decide +kernel
theorem od_prog_10_method_7_0 : decode prog_10_method_7_code 0 = .ok (.aconst_null, 1) := by decide +kernel
theorem od_prog_10_method_7_1 : decode prog_10_method_7_code 1 = .ok (.astore_n 2, 1) := by decide +kernel
theorem od_prog_10_method_7_2 : decode prog_10_method_7_code 2 = .ok (.aload_n 0, 1) := by decide +kernel
theorem od_prog_10_method_7_3 : decode prog_10_method_7_code 3 = .ok (.getfield 9, 3) := by decide +kernel
theorem od_prog_10_method_7_6 : decode prog_10_method_7_code 6 = .ok (.invokeinterface 161 1, 5) := by decide +kernel
theorem od_prog_10_method_7_11 : decode prog_10_method_7_code 11 = .ok (.astore_n 3, 1) := by decide +kernel
theorem od_prog_10_method_7_12 : decode prog_10_method_7_code 12 = .ok (.aload_n 3, 1) := by decide +kernel
theorem od_prog_10_method_7_13 : decode prog_10_method_7_code 13 = .ok (.invokeinterface 165 1, 5) := by decide +kernel
theorem od_prog_10_method_7_18 : decode prog_10_method_7_code 18 = .ok (.ifCond .eq 65, 3) := by decide +kernel
theorem od_prog_10_method_7_83 : decode prog_10_method_7_code 83 = .ok (.aload_n 1, 1) := by decide +kernel
theorem od_prog_10_method_7_84 : decode prog_10_method_7_code 84 = .ok (.ldc 183, 2) := by decide +kernel
theorem od_prog_10_method_7_86 : decode prog_10_method_7_code 86 = .ok (.invokevirtual 185, 3) := by decide +kernel
theorem od_prog_10_method_7_89 : decode prog_10_method_7_code 89 = .ok (.ifCond .ne 14, 3) := by decide +kernel
theorem od_prog_10_method_7_103 : decode prog_10_method_7_code 103 = .ok (.iconst 1, 1) := by decide +kernel
theorem od_prog_10_method_7_104 : decode prog_10_method_7_code 104 = .ok (.goto 4, 3) := by decide +kernel
theorem od_prog_10_method_7_108 : decode prog_10_method_7_code 108 = .ok (.ireturn, 1) := by decide +kernel
theorem od_prog_10_method_7_92 : decode prog_10_method_7_code 92 = .ok (.aload_n 2, 1) := by decide +kernel
theorem od_prog_10_method_7_93 : decode prog_10_method_7_code 93 = .ok (.ifnull 10, 3) := by decide +kernel
theorem od_prog_10_method_8_0 : decode prog_10_method_8_code 0 = .ok (.aload_n 0, 1) := by decide +kernel
theorem od_prog_10_method_8_1 : decode prog_10_method_8_code 1 = .ok (.getfield 13, 3) := by decide +kernel
theorem od_prog_10_method_8_4 : decode prog_10_method_8_code 4 = .ok (.areturn, 1) := by decide +kernel
theorem od_jdk_2316_method_21_0 : decode jdk_2316_method_21_code 0 = .ok (.aload_n 0, 1) := by decide +kernel
theorem od_jdk_2316_method_21_1 : decode jdk_2316_method_21_code 1 = .ok (.getfield 221, 3) := by decide +kernel
theorem od_jdk_2316_method_21_4 : decode jdk_2316_method_21_code 4 = .ok (.aload_n 0, 1) := by decide +kernel
theorem od_jdk_2316_method_21_5 : decode jdk_2316_method_21_code 5 = .ok (.getfield 224, 3) := by decide +kernel
theorem od_jdk_2316_method_21_8 : decode jdk_2316_method_21_code 8 = .ok (.i2l, 1) := by decide +kernel
theorem od_jdk_2316_method_21_9 : decode jdk_2316_method_21_code 9 = .ok (.lor, 1) := by decide +kernel
theorem od_jdk_2316_method_21_10 : decode jdk_2316_method_21_code 10 = .ok (.lconst 0, 1) := by decide +kernel
theorem od_jdk_2316_method_21_11 : decode jdk_2316_method_21_code 11 = .ok (.lcmp, 1) := by decide +kernel
theorem od_jdk_2316_method_21_12 : decode jdk_2316_method_21_code 12 = .ok (.ifCond .ne 7, 3) := by decide +kernel
theorem od_jdk_2316_method_21_15 : decode jdk_2316_method_21_code 15 = .ok (.iconst 1, 1) := by decide +kernel
theorem od_jdk_2316_method_21_16 : decode jdk_2316_method_21_code 16 = .ok (.goto 4, 3) := by decide +kernel
theorem od_jdk_2316_method_21_20 : decode jdk_2316_method_21_code 20 = .ok (.ireturn, 1) := by decide +kernel
theorem od_method_3_0 : decode method_3_code 0 = .ok (.iload_n 0, 1) := by decide +kernel
theorem od_method_3_1 : decode method_3_code 1 = .ok (.ifCond .ne 14, 3) := by decide +kernel
theorem od_method_3_4 : decode method_3_code 4 = .ok (.new 34, 3) := by decide +kernel
theorem od_method_3_7 : decode method_3_code 7 = .ok (.dup, 1) := by decide +kernel
theorem od_method_3_8 : decode method_3_code 8 = .ok (.iconst 0, 1) := by decide +kernel
theorem od_method_3_9 : decode method_3_code 9 = .ok (.newarray .char, 2) := by decide +kernel
theorem od_method_3_11 : decode method_3_code 11 = .ok (.invokespecial 36, 3) := by decide +kernel
theorem od_method_3_14 : decode method_3_code 14 = .ok (.areturn, 1) := by decide +kernel
theorem od_method_3_15 : decode method_3_code 15 = .ok (.iload_n 0, 1) := by decide +kernel
theorem od_method_3_16 : decode method_3_code 16 = .ok (.iconst 1, 1) := by decide +kernel
theorem od_method_3_17 : decode method_3_code 17 = .ok (.if_icmp .ne 8, 3) := by decide +kernel
theorem od_method_3_20 : decode method_3_code 20 = .ok (.iload_n 1, 1) := by decide +kernel
theorem od_method_3_21 : decode method_3_code 21 = .ok (.invokestatic 39, 3) := by decide +kernel
theorem od_method_3_24 : decode method_3_code 24 = .ok (.areturn, 1) := by decide +kernel
theorem od_method_3_25 : decode method_3_code 25 = .ok (.iload_n 0, 1) := by decide +kernel
theorem od_method_3_26 : decode method_3_code 26 = .ok (.iconst 2, 1) := by decide +kernel
theorem od_method_3_27 : decode method_3_code 27 = .ok (.if_icmp .ne 28, 3) := by decide +kernel
theorem od_method_3_30 : decode method_3_code 30 = .ok (.iconst 2, 1) := by decide +kernel
theorem od_method_3_31 : decode method_3_code 31 = .ok (.newarray .char, 2) := by decide +kernel
theorem od_method_3_33 : decode method_3_code 33 = .ok (.astore 6, 2) := by decide +kernel
theorem od_method_3_35 : decode method_3_code 35 = .ok (.aload 6, 2) := by decide +kernel
theorem od_method_3_37 : decode method_3_code 37 = .ok (.iconst 0, 1) := by decide +kernel
theorem od_method_3_38 : decode method_3_code 38 = .ok (.iload_n 1, 1) := by decide +kernel
theorem od_method_3_39 : decode method_3_code 39 = .ok (.castore, 1) := by decide +kernel
theorem od_method_3_40 : decode method_3_code 40 = .ok (.aload 6, 2) := by decide +kernel
theorem od_method_3_42 : decode method_3_code 42 = .ok (.iconst 1, 1) := by decide +kernel
theorem od_method_3_43 : decode method_3_code 43 = .ok (.iload_n 2, 1) := by decide +kernel
theorem od_method_3_44 : decode method_3_code 44 = .ok (.castore, 1) := by decide +kernel
theorem od_method_3_45 : decode method_3_code 45 = .ok (.new 34, 3) := by decide +kernel
theorem od_method_3_48 : decode method_3_code 48 = .ok (.dup, 1) := by decide +kernel
theorem od_method_3_49 : decode method_3_code 49 = .ok (.aload 6, 2) := by decide +kernel
theorem od_method_3_51 : decode method_3_code 51 = .ok (.invokespecial 36, 3) := by decide +kernel
theorem od_method_3_54 : decode method_3_code 54 = .ok (.areturn, 1) := by decide +kernel
theorem od_method_3_55 : decode method_3_code 55 = .ok (.iload_n 0, 1) := by decide +kernel
theorem od_method_3_56 : decode method_3_code 56 = .ok (.iconst 3, 1) := by decide +kernel
theorem od_method_3_57 : decode method_3_code 57 = .ok (.if_icmp .ne 33, 3) := by decide +kernel
theorem od_method_3_60 : decode method_3_code 60 = .ok (.iconst 3, 1) := by decide +kernel
theorem od_method_3_61 : decode method_3_code 61 = .ok (.newarray .char, 2) := by decide +kernel
theorem od_method_3_63 : decode method_3_code 63 = .ok (.astore 6, 2) := by decide +kernel
theorem od_method_3_65 : decode method_3_code 65 = .ok (.aload 6, 2) := by decide +kernel
theorem od_method_3_67 : decode method_3_code 67 = .ok (.iconst 0, 1) := by decide +kernel
theorem od_method_3_68 : decode method_3_code 68 = .ok (.iload_n 1, 1) := by decide +kernel
theorem od_method_3_69 : decode method_3_code 69 = .ok (.castore, 1) := by decide +kernel
theorem od_method_3_70 : decode method_3_code 70 = .ok (.aload 6, 2) := by decide +kernel
theorem od_method_3_72 : decode method_3_code 72 = .ok (.iconst 1, 1) := by decide +kernel
theorem od_method_3_73 : decode method_3_code 73 = .ok (.iload_n 2, 1) := by decide +kernel
theorem od_method_3_74 : decode method_3_code 74 = .ok (.castore, 1) := by decide +kernel
theorem od_method_3_75 : decode method_3_code 75 = .ok (.aload 6, 2) := by decide +kernel
theorem od_method_3_77 : decode method_3_code 77 = .ok (.iconst 2, 1) := by decide +kernel
theorem od_method_3_78 : decode method_3_code 78 = .ok (.iload_n 3, 1) := by decide +kernel
theorem od_method_3_79 : decode method_3_code 79 = .ok (.castore, 1) := by decide +kernel
theorem od_method_3_80 : decode method_3_code 80 = .ok (.new 34, 3) := by decide +kernel
theorem od_method_3_83 : decode method_3_code 83 = .ok (.dup, 1) := by decide +kernel
theorem od_method_3_84 : decode method_3_code 84 = .ok (.aload 6, 2) := by decide +kernel
theorem od_method_3_86 : decode method_3_code 86 = .ok (.invokespecial 36, 3) := by decide +kernel
theorem od_method_3_89 : decode method_3_code 89 = .ok (.areturn, 1) := by decide +kernel
theorem od_method_3_90 : decode method_3_code 90 = .ok (.iload_n 0, 1) := by decide +kernel
theorem od_method_3_91 : decode method_3_code 91 = .ok (.iconst 4, 1) := by decide +kernel
theorem od_method_3_92 : decode method_3_code 92 = .ok (.if_icmp .ne 39, 3) := by decide +kernel
theorem od_method_3_95 : decode method_3_code 95 = .ok (.iconst 4, 1) := by decide +kernel
theorem od_method_3_96 : decode method_3_code 96 = .ok (.newarray .char, 2) := by decide +kernel
theorem od_method_3_98 : decode method_3_code 98 = .ok (.astore 6, 2) := by decide +kernel
theorem od_method_3_100 : decode method_3_code 100 = .ok (.aload 6, 2) := by decide +kernel
theorem od_method_3_102 : decode method_3_code 102 = .ok (.iconst 0, 1) := by decide +kernel
theorem od_method_3_103 : decode method_3_code 103 = .ok (.iload_n 1, 1) := by decide +kernel
theorem od_method_3_104 : decode method_3_code 104 = .ok (.castore, 1) := by decide +kernel
theorem od_method_3_105 : decode method_3_code 105 = .ok (.aload 6, 2) := by decide +kernel
theorem od_method_3_107 : decode method_3_code 107 = .ok (.iconst 1, 1) := by decide +kernel
theorem od_method_3_108 : decode method_3_code 108 = .ok (.iload_n 2, 1) := by decide +kernel
theorem od_method_3_109 : decode method_3_code 109 = .ok (.castore, 1) := by decide +kernel
theorem od_method_3_110 : decode method_3_code 110 = .ok (.aload 6, 2) := by decide +kernel
theorem od_method_3_112 : decode method_3_code 112 = .ok (.iconst 2, 1) := by decide +kernel
theorem od_method_3_113 : decode method_3_code 113 = .ok (.iload_n 3, 1) := by decide +kernel
theorem od_method_3_114 : decode method_3_code 114 = .ok (.castore, 1) := by decide +kernel
theorem od_method_3_115 : decode method_3_code 115 = .ok (.aload 6, 2) := by decide +kernel
theorem od_method_3_117 : decode method_3_code 117 = .ok (.iconst 3, 1) := by decide +kernel
theorem od_method_3_118 : decode method_3_code 118 = .ok (.iload 4, 2) := by decide +kernel
theorem od_method_3_120 : decode method_3_code 120 = .ok (.castore, 1) := by decide +kernel
theorem od_method_3_121 : decode method_3_code 121 = .ok (.new 34, 3) := by decide +kernel
theorem od_method_3_124 : decode method_3_code 124 = .ok (.dup, 1) := by decide +kernel
theorem od_method_3_125 : decode method_3_code 125 = .ok (.aload 6, 2) := by decide +kernel
theorem od_method_3_127 : decode method_3_code 127 = .ok (.invokespecial 36, 3) := by decide +kernel
theorem od_method_3_130 : decode method_3_code 130 = .ok (.areturn, 1) := by decide +kernel
theorem od_method_3_131 : decode method_3_code 131 = .ok (.iconst 5, 1) := by decide +kernel
theorem od_method_3_132 : decode method_3_code 132 = .ok (.newarray .char, 2) := by decide +kernel
theorem od_method_3_134 : decode method_3_code 134 = .ok (.astore 6, 2) := by decide +kernel
theorem od_method_3_136 : decode method_3_code 136 = .ok (.aload 6, 2) := by decide +kernel
theorem od_method_3_138 : decode method_3_code 138 = .ok (.iconst 0, 1) := by decide +kernel
theorem od_method_3_139 : decode method_3_code 139 = .ok (.iload_n 1, 1) := by decide +kernel
theorem od_method_3_140 : decode method_3_code 140 = .ok (.castore, 1) := by decide +kernel
theorem od_method_3_141 : decode method_3_code 141 = .ok (.aload 6, 2) := by decide +kernel
theorem od_method_3_143 : decode method_3_code 143 = .ok (.iconst 1, 1) := by decide +kernel
theorem od_method_3_144 : decode method_3_code 144 = .ok (.iload_n 2, 1) := by decide +kernel
theorem od_method_3_145 : decode method_3_code 145 = .ok (.castore, 1) := by decide +kernel
theorem od_method_3_146 : decode method_3_code 146 = .ok (.aload 6, 2) := by decide +kernel
theorem od_method_3_148 : decode method_3_code 148 = .ok (.iconst 2, 1) := by decide +kernel
theorem od_method_3_149 : decode method_3_code 149 = .ok (.iload_n 3, 1) := by decide +kernel
theorem od_method_3_150 : decode method_3_code 150 = .ok (.castore, 1) := by decide +kernel
theorem od_method_3_151 : decode method_3_code 151 = .ok (.aload 6, 2) := by decide +kernel
theorem od_method_3_153 : decode method_3_code 153 = .ok (.iconst 3, 1) := by decide +kernel
theorem od_method_3_154 : decode method_3_code 154 = .ok (.iload 4, 2) := by decide +kernel
theorem od_method_3_156 : decode method_3_code 156 = .ok (.castore, 1) := by decide +kernel
theorem od_method_3_157 : decode method_3_code 157 = .ok (.aload 6, 2) := by decide +kernel
theorem od_method_3_159 : decode method_3_code 159 = .ok (.iconst 4, 1) := by decide +kernel
theorem od_method_3_160 : decode method_3_code 160 = .ok (.iload 5, 2) := by decide +kernel
theorem od_method_3_162 : decode method_3_code 162 = .ok (.castore, 1) := by decide +kernel
theorem od_method_3_163 : decode method_3_code 163 = .ok (.new 34, 3) := by decide +kernel
theorem od_method_3_166 : decode method_3_code 166 = .ok (.dup, 1) := by decide +kernel
theorem od_method_3_167 : decode method_3_code 167 = .ok (.aload 6, 2) := by decide +kernel
theorem od_method_3_169 : decode method_3_code 169 = .ok (.invokespecial 36, 3) := by decide +kernel
theorem od_method_3_172 : decode method_3_code 172 = .ok (.areturn, 1) := by decide +kernel
theorem opd_0 : parseMethodDescriptor "(C)Z" = some ⟨[.char], some .boolean⟩ := by decide +kernel
theorem opd_1 : parseMethodDescriptor "(C)[B" = some ⟨[.char], some (.array .byte)⟩ := by decide +kernel
theorem opd_2 : parseMethodDescriptor "([BB)V" = some ⟨[(.array .byte), .byte], none⟩ := by decide +kernel
theorem opd_3 : parseMethodDescriptor "([CIILjava/lang/Void;)V" = some ⟨[(.array .char), .int, .int, (.object "java/lang/Void")], none⟩ := by decide +kernel
theorem opd_4 : parseMethodDescriptor "()I" = some ⟨[], some .int⟩ := by decide +kernel
theorem opd_5 : parseMethodDescriptor "(Ljava/util/List;I)V" = some ⟨[(.object "java/util/List"), .int], none⟩ := by decide +kernel
theorem opd_6 : parseMethodDescriptor "()Ljava/util/List;" = some ⟨[], some (.object "java/util/List")⟩ := by decide +kernel
theorem opd_7 : parseMethodDescriptor "(Ljava/util/List;Ljava/time/Duration;)V" = some ⟨[(.object "java/util/List"), (.object "java/time/Duration")], none⟩ := by decide +kernel
theorem opd_8 : parseMethodDescriptor "()Ljava/util/Iterator;" = some ⟨[], some (.object "java/util/Iterator")⟩ := by decide +kernel
theorem opd_9 : parseMethodDescriptor "()Z" = some ⟨[], some .boolean⟩ := by decide +kernel
theorem opd_10 : parseMethodDescriptor "(Ljava/lang/Object;)Z" = some ⟨[(.object "java/lang/Object")], some .boolean⟩ := by decide +kernel
theorem opd_11 : parseMethodDescriptor "([C)V" = some ⟨[(.array .char)], none⟩ := by decide +kernel
theorem opd_12 : parseMethodDescriptor "(C)Ljava/lang/String;" = some ⟨[.char], some (.object "java/lang/String")⟩ := by decide +kernel
theorem opd_13 : parseMethodDescriptor "(ICCCCC)Ljava/lang/String;" = some ⟨[.int, .char, .char, .char, .char, .char], some (.object "java/lang/String")⟩ := by decide +kernel
theorem opd_14 : parseMethodDescriptor "()Lcom/example/structured_data_crawler/structureddatacrawler/crawl/RobotsRules;" = some ⟨[], some (.object "com/example/structured_data_crawler/structureddatacrawler/crawl/RobotsRules")⟩ := by decide +kernel
theorem opd_15 : parseMethodDescriptor "(Ljava/lang/String;)Z" = some ⟨[(.object "java/lang/String")], some .boolean⟩ := by decide +kernel
theorem opd_16 : parseMethodDescriptor "()Ljava/time/Duration;" = some ⟨[], some (.object "java/time/Duration")⟩ := by decide +kernel
theorem ef_rm_canEncode (m : MethodId) (x0 : Int32) : entryFrame m #[(.int x0)] 1 = mkF m 0 #[.val (.int x0)] [] := by first | (simp [entryFrame, mkF, argsToLocals, Value.category]; done) | rfl
set_option maxRecDepth 65536 in
set_option maxHeartbeats 40000000 in
theorem rm_canEncode (l : Launch) (Z : State) (a0 : Array Value) (hw : ∀ d ∈ tables_1, d.before a0 Z = true) (p1 : Int32) (h0 : Heap) (n0 : Nat) (Z0 : n0 ≤ h0.size) (hc1 : ¬ (255 : Int32) < p1) :
    own_Met l Z (⟨"java/lang/StringLatin1", "canEncode", "(C)Z"⟩ : MethodName) jdk_43_method_3_code 1 (some .boolean) ({ frames := 0, cells := 0, slots := 0, locals := 0 } : Room) #[(.int p1)] h0 (fun v h L => v = some (.int (1 : Int32)) ∧ Fr n0 L ∧ h0 = h) := by
  refine own_body (plainFor_of_name (by first | (simp [plainName, overriddenIn]; done) | decide +kernel)) ?_
  intro p e s m below meth c s₁ hx hby hml hown hnm hlk hrt hZ X0 e0
  refine own_enter (ef_rm_canEncode m p1) ?_
  have N0 := Fr.nil n0
  refine own_iloadN X0 hx hby od_jdk_43_method_3_0 (pc' := 1) rfl rfl ?_
  refine own_sipush X0 hx hby od_jdk_43_method_3_1 (pc' := 4) rfl (z := 255) rfl ?_
  refine own_icmpN X0 hx hby od_jdk_43_method_3_4 (pc' := 7) rfl (flt hc1).2.2.1 ?_
  refine own_iconst X0 hx hby od_jdk_43_method_3_7 (pc' := 8) rfl (z := 1) rfl ?_
  refine own_goto X0 hx hby od_jdk_43_method_3_8 (by decide) (pc' := 12) (by decide) ?_
  exact own_retN X0 hx hby hlk hrt (by simp) od_jdk_43_method_3_12 (z' := (1 : Int32)) rfl (by first | exact ⟨rfl, N0, rfl⟩ | (rw [e0]; exact ⟨rfl, N0, rfl⟩)) (by decide) (by decide)
theorem ef_rm_toBytes (m : MethodId) (x0 : Int32) : entryFrame m #[(.int x0)] 1 = mkF m 0 #[.val (.int x0)] [] := by first | (simp [entryFrame, mkF, argsToLocals, Value.category]; done) | rfl
set_option maxRecDepth 65536 in
set_option maxHeartbeats 40000000 in
theorem rm_toBytes (l : Launch) (Z : State) (a0 : Array Value) (hw : ∀ d ∈ tables_1, d.before a0 Z = true) (p1 : Int32) (h0 : Heap) (n0 : Nat) (Z0 : n0 ≤ h0.size) :
    own_Met l Z (⟨"java/lang/StringLatin1", "toBytes", "(C)[B"⟩ : MethodName) jdk_43_method_46_code 1 (some (.array .byte)) ({ frames := 0, cells := 1, slots := 1, locals := 0 } : Room) #[(.int p1)] h0 (fun v h L => ∃ (b : Addr) (kA : ClassId), v = some (.ref b) ∧ n0 ≤ b ∧ Ext h0 h ∧ Fr n0 L ∧ Arv Z h b kA .byte (1 : Int32) [(.int p1.toInt8.toInt32)] (.int (0 : Int32))) := by
  refine own_body (plainFor_of_name (by first | (simp [plainName, overriddenIn]; done) | decide +kernel)) ?_
  intro p e s m below meth c s₁ hx hby hml hown hnm hlk hrt hZ X0 e0
  refine own_enter (ef_rm_toBytes m p1) ?_
  have N0 := Fr.nil n0
  refine own_iconst X0 hx hby od_jdk_43_method_46_0 (pc' := 1) rfl (z := 1) rfl ?_
  refine own_newP (aty := .byte) X0 hx hby hZ (ow_24 hw) e0 od_jdk_43_method_46_1 (pc' := 3) rfl (by decide) (cap := 1) (by decide) (by decide) (by decide) (by decide) ?_
  intro T1 h1 b1 kA1 g1 X1 e1 E1 V_b1
  have le2 : h0.size ≤ b1 := Nat.le_of_eq g1.symm
  have n0_b1 : n0 ≤ b1 := Nat.le_trans Z0 (Nat.le_of_eq g1.symm)
  replace V_b1 : Arv Z h1 b1 kA1 .byte (1 : Int32) [(.int (0 : Int32))] (.int (0 : Int32)) := V_b1.pad (pad_rep [] (.int (0 : Int32)) 1)
  refine own_dup X1 hx hby od_jdk_43_method_46_3 (pc' := 4) rfl rfl ?_
  refine own_iconst X1 hx hby od_jdk_43_method_46_4 (pc' := 5) rfl (z := 0) rfl ?_
  refine own_iloadN X1 hx hby od_jdk_43_method_46_5 (pc' := 6) rfl rfl ?_
  refine own_i2b X1 hx hby od_jdk_43_method_46_6 (pc' := 7) rfl ?_
  refine own_stB X1 hx hby hZ e1 V_b1 ⟨by decide, by decide⟩ 0 rfl (Nat.le_of_ble_eq_true rfl) od_jdk_43_method_46_7 (pc' := 8) rfl ?_
  intro T3 h3 X3 e3 W3 V3_b1
  replace V3_b1 : Arv Z h3 b1 kA1 .byte (1 : Int32) [(.int (nar .byte (p1.toInt8.toInt32)))] (.int (0 : Int32)) := V3_b1
  have Ea4 := own_xw E1 W3 le2
  have N3 := own_fr1 (sl := ((0 : Int32)).toNatClampNeg) N0 n0_b1
  rw [own_narb] at V3_b1
  exact own_retA X3 hx hby hlk hrt rfl rfl od_jdk_43_method_46_8 (by first | exact ⟨b1, kA1, rfl, n0_b1, Ea4, N3, V3_b1⟩ | (rw [e3]; exact ⟨b1, kA1, rfl, n0_b1, Ea4, N3, V3_b1⟩)) (by decide) (by decide)
theorem ef_rm_strBB (m : MethodId) (x0 : Addr) (x1 : Addr) (x2 : Int32) : entryFrame m #[(.ref x0), (.ref x1), (.int x2)] 3 = mkF m 0 #[.val (.ref x0), .val (.ref x1), .val (.int x2)] [] := by first | (simp [entryFrame, mkF, argsToLocals, Value.category]; done) | rfl
set_option maxRecDepth 65536 in
set_option maxHeartbeats 40000000 in
theorem rm_strBB (l : Launch) (Z : State) (a0 : Array Value) (hw : ∀ d ∈ tables_1, d.before a0 Z = true) (a1 a2 : Addr) (h0 : Heap) (n0 : Nat) (Z0 : n0 ≤ h0.size) (n0_a1 : n0 ≤ a1) (A1 : Exa Z h0 a1 "java/lang/String") (F1 : Fld Z h0 a1 "java/lang/String" "value" "[B" .null) (F2 : Fld Z h0 a1 "java/lang/String" "coder" "B" (.int (0 : Int32))) :
    own_Met l Z (⟨"java/lang/String", "<init>", "([BB)V"⟩ : MethodName) jdk_42_method_151_code 3 none ({ frames := 1, cells := 0, slots := 0, locals := 12 } : Room) #[(.ref a1), (.ref a2), (.int (0 : Int32))] h0 (fun v h L => v = none ∧ Fr n0 L ∧ Keep h0 h [a1] ∧ Exa Z h a1 "java/lang/String" ∧ Fld Z h a1 "java/lang/String" "value" "[B" (.ref a2) ∧ Fld Z h a1 "java/lang/String" "coder" "B" (.int (0 : Int32))) := by
  refine own_body (plainFor_of_name (by first | (simp [plainName, overriddenIn]; done) | decide +kernel)) ?_
  intro p e s m below meth c s₁ hx hby hml hown hnm hlk hrt hZ X0 e0
  refine own_enter (ef_rm_strBB m a1 a2 (0 : Int32)) ?_
  have N0 := Fr.nil n0
  have K0 := Keep.refl h0 [a1]
  refine own_aloadN X0 hx hby od_jdk_42_method_151_0 (pc' := 1) rfl rfl rfl ?_
  refine own_initO X0 hx hby hZ hml hown (ow_16 hw) (ow_17 hw) (ow_18 hw) e0 rfl od_jdk_42_method_151_1 (pc' := 4) rfl (by decide) (W := 0) (Nat.le_refl _) (by decide) ?_
  intro T1 X1 e1
  refine own_aloadN X1 hx hby od_jdk_42_method_151_4 (pc' := 5) rfl rfl rfl ?_
  refine own_aloadN X1 hx hby od_jdk_42_method_151_5 (pc' := 6) rfl rfl rfl ?_
  refine own_putF X1 hx hby hZ hown (host := "") (Or.inl (ow_33 hw)) Via.refl e1 F1 A1 (Or.inr ⟨(ow_34 hw), rfl, hnm⟩) (ow_7 hw) (ty := (.array .byte)) (by decide) rfl rfl od_jdk_42_method_151_6 (pc' := 9) rfl ?_
  intro T2 h2 X2 e2 W2 F2_value_a1 A2_a1
  have Fw2_3 := F2.other W2 (Or.inr (slot_ne (Or.inr (ow_32 hw)) (Or.inr (ow_34 hw)) (by decide) (t := .byte) (t' := (.array .byte)) (by decide) (by decide)))
  have K4 := K0.wr W2 (Or.inl (List.mem_of_getElem? (i := 0) rfl))
  have N2 := own_fr1 (sl := Jvm.RoadKit.slotOf Z "java/lang/String" "value" "[B") N0 n0_a1
  refine own_aloadN X2 hx hby od_jdk_42_method_151_9 (pc' := 10) rfl rfl rfl ?_
  refine own_iloadN X2 hx hby od_jdk_42_method_151_10 (pc' := 11) rfl rfl ?_
  refine own_putFN X2 hx hby hZ hown (ow_31 hw) Via.refl e2 Fw2_3 A2_a1 (Or.inr ⟨(ow_32 hw), rfl, hnm⟩) (ow_7 hw) (ty := .byte) (v' := (.int (0 : Int32))) (by decide) rfl rfl od_jdk_42_method_151_11 (pc' := 14) rfl ?_
  intro T5 h5 X5 e5 W5 F5_coder_a1 A5_a1
  have Fw5_6 := F2_value_a1.other W5 (Or.inr (slot_ne (Or.inr (ow_34 hw)) (Or.inr (ow_32 hw)) (by decide) (t := (.array .byte)) (t' := .byte) (by decide) (by decide)))
  have K7 := K4.wr W5 (Or.inl (List.mem_of_getElem? (i := 0) rfl))
  have N5 := own_fr1 (sl := Jvm.RoadKit.slotOf Z "java/lang/String" "coder" "B") N2 n0_a1
  exact own_ret0 X5 hx hby hlk hrt od_jdk_42_method_151_14 (by first | exact ⟨rfl, N5, K7, A5_a1, Fw5_6, F5_coder_a1⟩ | (rw [e5]; exact ⟨rfl, N5, K7, A5_a1, Fw5_6, F5_coder_a1⟩)) (by decide) (by decide)
theorem ef_rm_valueOf (m : MethodId) (x0 : Int32) : entryFrame m #[(.int x0)] 1 = mkF m 0 #[.val (.int x0)] [] := by first | (simp [entryFrame, mkF, argsToLocals, Value.category]; done) | rfl
set_option maxRecDepth 65536 in
set_option maxHeartbeats 40000000 in
theorem rm_valueOf (l : Launch) (Z : State) (a0 : Array Value) (hw : ∀ d ∈ tables_1, d.before a0 Z = true) (p1 G1 : Int32) (h0 : Heap) (n0 : Nat) (Z0 : n0 ≤ h0.size) (S_cs : Sta Z h0 "java/lang/String" "COMPACT_STRINGS" "Z" (.int G1)) (P5 : ¬ (G1 = (0 : Int32))) (hc0 : ¬ p1 < (0 : Int32)) (hc1 : ¬ (255 : Int32) < p1) :
    own_Met l Z (⟨"java/lang/String", "valueOf", "(C)Ljava/lang/String;"⟩ : MethodName) jdk_42_method_139_code 1 (some (.object "java/lang/String")) ({ frames := 2, cells := 2, slots := 5, locals := 27 } : Room) #[(.int p1)] h0 (fun v h L => ∃ r : Addr, v = some (.ref r) ∧ n0 ≤ r ∧ Ext h0 h ∧ Fr n0 L ∧ own_Str Z h r [p1]) := by
  refine own_body (plainFor_of_name (by first | (simp [plainName, overriddenIn]; done) | decide +kernel)) ?_
  intro p e s m below meth c s₁ hx hby hml hown hnm hlk hrt hZ X0 e0
  refine own_enter (ef_rm_valueOf m p1) ?_
  have N0 := Fr.nil n0
  refine own_getS X0 hx hby hZ hown (host := "") (Or.inl (ow_19 hw)) Via.refl e0 S_cs od_jdk_42_method_139_0 (pc' := 3) rfl ?_
  intro T1 X1 e1
  refine own_ifN X1 hx hby od_jdk_42_method_139_3 (pc' := 6) rfl (feq P5).1 ?_
  refine own_iloadN X1 hx hby od_jdk_42_method_139_6 (pc' := 7) rfl rfl ?_
  refine own_callM X1 hx hby hml hZ hown (ow_136 hw) (ow_137 hw) (ow_117 hw) (ow_138 hw) (by decide) (cc := 0) (ss := 0) (rm_canEncode l Z a0 hw p1 h0 n0 Z0 hc1) 0 rfl rfl (by decide) (by decide) rfl (argsL := [(.int p1)]) (rest := []) opd_0 rfl rfl (Nat.le_refl _) od_jdk_42_method_139_7 (pc' := 10) rfl rfl e1 (by decide) (by decide) ?_
  rintro v2 T2 h2 L2 X2 e2 ⟨rfl, Nq2, rfl⟩
  have N2 := N0.app Nq2
  refine own_ifN X2 hx hby od_jdk_42_method_139_10 (pc' := 13) rfl (feq (by decide)).1 ?_
  refine own_newO X2 hx hby hZ hown (ow_114 hw) (ow_7 hw) (ow_8 hw) e2 od_jdk_42_method_139_13 (pc' := 16) rfl (by decide) (by decide) ?_
  intro T3 h3 b3 g3 X3 e3 E3 AX3 D3
  have le4 : h0.size ≤ b3 := Nat.le_of_eq g3.symm
  have n0_b3 : n0 ≤ b3 := Nat.le_trans Z0 (Nat.le_of_eq g3.symm)
  have F_coder_b3 : Fld Z h3 b3 "java/lang/String" "coder" "B" (.int (0 : Int32)) := D3 (Or.inr (ow_32 hw)) (ty := .byte) (by decide)
  have F_value_b3 : Fld Z h3 b3 "java/lang/String" "value" "[B" .null := D3 (Or.inr (ow_34 hw)) (ty := (.array .byte)) (by decide)
  refine own_dup X3 hx hby od_jdk_42_method_139_16 (pc' := 17) rfl rfl ?_
  refine own_iloadN X3 hx hby od_jdk_42_method_139_17 (pc' := 18) rfl rfl ?_
  refine own_callM X3 hx hby hml hZ hown (ow_139 hw) (ow_140 hw) (ow_117 hw) (ow_141 hw) (by decide) (cc := 1) (ss := 1) (rm_toBytes l Z a0 hw p1 h3 n0 (Nat.le_trans Z0 E3.1)) 2 rfl rfl (by decide) (by decide) rfl (argsL := [(.int p1)]) (rest := [(.ref b3), (.ref b3)]) opd_1 rfl rfl (Nat.le_refl _) od_jdk_42_method_139_18 (pc' := 21) rfl rfl e3 (by decide) (by decide) ?_
  rintro v5 T5 h5 L5 X5 e5 ⟨t5, kt5, rfl, nt5, Eq5, Nq5, Vt5⟩
  have N5 := N2.app Nq5
  have Ea6 := own_xt E3 Eq5
  refine own_iconst X5 hx hby od_jdk_42_method_139_21 (pc' := 22) rfl (z := 0) rfl ?_
  refine own_specM X5 hx hby hml hZ hown rfl (ow_142 hw) (ow_143 hw) (ow_8 hw) (ow_144 hw) (by decide) (cc := 0) (ss := 0) (rm_strBB l Z a0 hw b3 t5 h5 n0 (Nat.le_trans Z0 Ea6.1) n0_b3 (AX3.ext Eq5) (F_value_b3.ext Eq5) (F_coder_b3.ext Eq5)) 1 rfl rfl (by decide) (by decide) rfl (argsL := [(.ref t5), (.int (0 : Int32))]) (rest := [(.ref b3)]) opd_2 rfl rfl (Nat.le_refl _) od_jdk_42_method_139_22 (pc' := 25) rfl rfl e5 (by decide) (by decide) ?_
  rintro v7 T7 h7 L7 X7 e7 ⟨rfl, Nq7, Kq7, Aq7, Fv7, Fc7⟩
  have Vt := Vt5.keep Kq7 (ninS (Exa.neArv ((AX3.ext Eq5)) Vt5 (ow_7 hw)).symm nin0)
  have N7 := N5.app Nq7
  have Ea8 := own_xk Ea6 Kq7 (allS le4 all0)
  replace S_cs := S_cs.ext Ea8
  exact own_retA X7 hx hby hlk hrt rfl rfl od_jdk_42_method_139_25 (by first | exact ⟨b3, rfl, n0_b3, Ea8, N7, Aq7, Fc7, (by intro c hc; simp only [List.mem_cons, List.not_mem_nil, or_false] at hc; subst hc; exact ⟨hc0, hc1⟩), t5, kt5, Fv7, Vt⟩ | (rw [e7]; exact ⟨b3, rfl, n0_b3, Ea8, N7, Aq7, Fc7, (by intro c hc; simp only [List.mem_cons, List.not_mem_nil, or_false] at hc; subst hc; exact ⟨hc0, hc1⟩), t5, kt5, Fv7, Vt⟩)) (by decide) (by decide)
theorem ef_rm_str0v (m : MethodId) (x0 : Addr) (x1 : Addr) (x2 : Int32) (x3 : Int32) : entryFrame m #[(.ref x0), (.ref x1), (.int x2), (.int x3), .null] 6 = mkF m 0 #[.val (.ref x0), .val (.ref x1), .val (.int x2), .val (.int x3), .val .null, .unset] [] := by first | (simp [entryFrame, mkF, argsToLocals, Value.category]; done) | rfl
set_option maxRecDepth 65536 in
set_option maxHeartbeats 40000000 in
theorem rm_str0v (l : Launch) (Z : State) (a0 : Array Value) (hw : ∀ d ∈ tables_1, d.before a0 Z = true) (a1 a2 : Addr) (h0 : Heap) (n0 : Nat) (Z0 : n0 ≤ h0.size) (n0_a1 : n0 ≤ a1) (A1 : Exa Z h0 a1 "java/lang/String") (F1 : Fld Z h0 a1 "java/lang/String" "value" "[B" .null) (F2 : Fld Z h0 a1 "java/lang/String" "coder" "B" (.int (0 : Int32))) :
    own_MetW l Z own_EL (⟨"java/lang/String", "<init>", "([CIILjava/lang/Void;)V"⟩ : MethodName) jdk_42_method_149_code 6 none ({ frames := 1, cells := 4, slots := 8, locals := 12 } : Room) #[(.ref a1), (.ref a2), (.int (0 : Int32)), (.int (0 : Int32)), .null] h0 (fun v h L => v = none ∧ Fr n0 L ∧ Keep h0 h [a1] ∧ own_Str Z h a1 []) := by
  refine own_bodyW (plainFor_of_name (by first | (simp [plainName, overriddenIn]; done) | decide +kernel)) ?_
  intro p e s m below meth c s₁ vm0 hx hby hml hown hnm hlk hrt hZ hZ0 SN CH X0 e0
  refine own_enter (ef_rm_str0v m a1 a2 (0 : Int32) (0 : Int32)) ?_
  have N0 := Fr.nil n0
  have lta1 := A1.lt
  have SF0 : Safe Z own_EL s.vm h0 a1 := own_safe_null hZ0.alike A1 F1 (ow_7 hw)
  have K0 := Keep.refl h0 [a1]
  refine own_aloadN X0 hx hby od_jdk_42_method_149_0 (pc' := 1) rfl rfl rfl ?_
  refine own_initO X0 hx hby hZ hml hown (ow_16 hw) (ow_17 hw) (ow_18 hw) e0 rfl od_jdk_42_method_149_1 (pc' := 4) rfl (by decide) (W := 0) (Nat.le_refl _) (by decide) ?_
  intro T1 X1 e1
  refine own_iloadN X1 hx hby od_jdk_42_method_149_4 (pc' := 5) rfl rfl ?_
  refine own_ifN X1 hx hby od_jdk_42_method_149_5 (pc' := 8) rfl (teq rfl).2 ?_
  refine own_aloadN X1 hx hby od_jdk_42_method_149_8 (pc' := 9) rfl rfl rfl ?_
  refine own_ldcC X1 hx hby hZ hown SN CH (own_ew hw) (own_ws hw) (ow_145 hw) e1 od_jdk_42_method_149_9 (pc' := 11) rfl (n := 0) (by decide) (by decide) (by decide) (by decide) (by decide) [] ⟨by decide, by decide⟩ (by decide) (by decide) (by decide) ?_
  intro T2 vm2 h2 q2 X2 e2 hZ hown SN2 CH2 E2 S_q2
  have K3 := K0.ext E2
  have A_q2 := S_q2.exa
  replace A1 := A1.ext E2
  replace F1 := F1.ext E2
  replace F2 := F2.ext E2
  obtain ⟨_, Cq, _, tq, kq, Vq, Kq⟩ := S_q2
  have neq : q2 ≠ a1 := Fld.ne Vq F1 (by simp)
  have net : tq ≠ a1 := (Exa.neArv A1 Kq (ow_7 hw)).symm
  refine own_getF X2 hx hby hZ hown (host := "") (Or.inl (ow_33 hw)) Via.refl e2 Vq od_jdk_42_method_149_11 (pc' := 14) rfl ?_
  intro T4 X4 e4
  refine own_putF X4 hx hby hZ hown (host := "") (Or.inl (ow_33 hw)) Via.refl e4 F1 A1 (Or.inr ⟨(ow_34 hw), rfl, hnm⟩) (ow_7 hw) (ty := (.array .byte)) (by decide) rfl rfl od_jdk_42_method_149_14 (pc' := 17) rfl ?_
  intro T5 h5 X5 e5 W5 F5_value_a1 A5_a1
  have Fw5_6 := F2.other W5 (Or.inr (slot_ne (Or.inr (ow_32 hw)) (Or.inr (ow_34 hw)) (by decide) (t := .byte) (t' := (.array .byte)) (by decide) (by decide)))
  have Fw5_7 := SN2.wr W5
  have Fw5_8 := CH2.wr W5 (CHr.safe CH2 lta1 SF0)
  have Fw5_9 := A_q2.wr W5
  have Fw5_10 := Vq.other W5 (Or.inl neq)
  have Fw5_11 := Kq.other W5 net
  have K12 := K3.wr W5 (Or.inl (List.mem_of_getElem? (i := 0) rfl))
  have N5 := own_fr1 (sl := Jvm.RoadKit.slotOf Z "java/lang/String" "value" "[B") N0 n0_a1
  refine own_aloadN X5 hx hby od_jdk_42_method_149_17 (pc' := 18) rfl rfl rfl ?_
  refine own_ldcC X5 hx hby hZ hown Fw5_7 Fw5_8 (own_ew hw) (own_ws hw) (ow_145 hw) e5 od_jdk_42_method_149_18 (pc' := 20) rfl (n := 0) (by decide) (by decide) (by decide) (by decide) (by decide) [] ⟨by decide, by decide⟩ (by decide) (by decide) (by decide) ?_
  intro T13 vm13 h13 q13 X13 e13 hZ hown SN13 CH13 E13 S_q13
  have K14 := K12.ext E13
  have A_q13 := S_q13.exa
  replace F5_value_a1 := F5_value_a1.ext E13
  replace A5_a1 := A5_a1.ext E13
  replace Fw5_6 := Fw5_6.ext E13
  replace Fw5_9 := Fw5_9.ext E13
  replace Fw5_10 := Fw5_10.ext E13
  replace Fw5_11 := Fw5_11.ext E13
  obtain ⟨_, Cq2, _⟩ := S_q13
  refine own_getF X13 hx hby hZ hown (host := "") (Or.inl (ow_31 hw)) Via.refl e13 Cq2 od_jdk_42_method_149_20 (pc' := 23) rfl ?_
  intro T15 X15 e15
  refine own_putFN X15 hx hby hZ hown (ow_31 hw) Via.refl e15 Fw5_6 A5_a1 (Or.inr ⟨(ow_32 hw), rfl, hnm⟩) (ow_7 hw) (ty := .byte) (v' := (.int (0 : Int32))) (by decide) rfl rfl od_jdk_42_method_149_23 (pc' := 26) rfl ?_
  intro T16 h16 X16 e16 W16 F16_coder_a1 A16_a1
  have Fw16_17 := F5_value_a1.other W16 (Or.inr (slot_ne (Or.inr (ow_34 hw)) (Or.inr (ow_32 hw)) (by decide) (t := (.array .byte)) (t' := .byte) (by decide) (by decide)))
  have Fw16_18 := Fw5_9.wr W16
  have Fw16_19 := Fw5_10.other W16 (Or.inl neq)
  have Fw16_20 := Fw5_11.other W16 net
  have Fw16_21 := SN13.wr W16
  have Fw16_22 := CH13.wr W16 (CHr.safe CH13 lta1 SF0)
  have Fw16_23 := A_q13.wr W16
  have K24 := K14.wr W16 (Or.inl (List.mem_of_getElem? (i := 0) rfl))
  have N16 := own_fr1 (sl := Jvm.RoadKit.slotOf Z "java/lang/String" "coder" "B") N5 n0_a1
  exact own_ret0W X16 hx hby hZ (own_ew hw) e16 Fw16_21 Fw16_22 hlk hrt od_jdk_42_method_149_26 ⟨rfl, N16, K24, A16_a1, F16_coder_a1, (fun c hc => by cases hc), tq, kq, Fw16_17, Fw16_20⟩ (by decide) (by decide)
theorem ef_rm_str0 (m : MethodId) (x0 : Addr) (x1 : Addr) : entryFrame m #[(.ref x0), (.ref x1)] 2 = mkF m 0 #[.val (.ref x0), .val (.ref x1)] [] := by first | (simp [entryFrame, mkF, argsToLocals, Value.category]; done) | rfl
set_option maxRecDepth 65536 in
set_option maxHeartbeats 40000000 in
theorem rm_str0 (l : Launch) (Z : State) (a0 : Array Value) (hw : ∀ d ∈ tables_1, d.before a0 Z = true) (a1 a2 : Addr) (kc : ClassId) (h0 : Heap) (n0 : Nat) (Z0 : n0 ≤ h0.size) (n0_a1 : n0 ≤ a1) (A1 : Exa Z h0 a1 "java/lang/String") (F1 : Fld Z h0 a1 "java/lang/String" "value" "[B" .null) (F2 : Fld Z h0 a1 "java/lang/String" "coder" "B" (.int (0 : Int32))) (V2 : Arv Z h0 a2 kc .char (0 : Int32) [] (.int (0 : Int32))) :
    own_MetW l Z own_EL (⟨"java/lang/String", "<init>", "([C)V"⟩ : MethodName) jdk_42_method_3_code 2 none ({ frames := 2, cells := 4, slots := 8, locals := 29 } : Room) #[(.ref a1), (.ref a2)] h0 (fun v h L => v = none ∧ Fr n0 L ∧ Keep h0 h [a1] ∧ own_Str Z h a1 []) := by
  refine own_bodyW (plainFor_of_name (by first | (simp [plainName, overriddenIn]; done) | decide +kernel)) ?_
  intro p e s m below meth c s₁ vm0 hx hby hml hown hnm hlk hrt hZ hZ0 SN CH X0 e0
  refine own_enter (ef_rm_str0 m a1 a2) ?_
  have N0 := Fr.nil n0
  have lta1 := A1.lt
  have SF0 : Safe Z own_EL s.vm h0 a1 := own_safe_null hZ0.alike A1 F1 (ow_7 hw)
  have K0 := Keep.refl h0 [a1]
  refine own_aloadN X0 hx hby od_jdk_42_method_3_0 (pc' := 1) rfl rfl rfl ?_
  refine own_aloadN X0 hx hby od_jdk_42_method_3_1 (pc' := 2) rfl rfl rfl ?_
  refine own_iconst X0 hx hby od_jdk_42_method_3_2 (pc' := 3) rfl (z := 0) rfl ?_
  refine own_aloadN X0 hx hby od_jdk_42_method_3_3 (pc' := 4) rfl rfl rfl ?_
  refine own_alenV X0 hx hby hZ e0 V2 od_jdk_42_method_3_4 (pc' := 5) rfl ?_
  refine own_aconst_null X0 hx hby od_jdk_42_method_3_5 (pc' := 6) rfl ?_
  refine own_specMW X0 hx hby hml hZ hown SN CH rfl (ow_12 hw) (ow_13 hw) (ow_8 hw) (ow_15 hw) (by decide) (cc := 4) (ss := 8) (own_ew hw) (rm_str0v l Z a0 hw a1 a2 h0 n0 (Nat.le_trans Z0 K0.1) n0_a1 A1 F1 F2) 0 rfl rfl (by decide) (by decide) rfl (argsL := [(.ref a2), (.int (0 : Int32)), (.int (0 : Int32)), .null]) (rest := []) opd_3 rfl rfl (Nat.le_refl _) od_jdk_42_method_3_6 (pc' := 9) rfl rfl e0 (by decide) (by decide) ?_
  rintro v1 T1 vm1 h1 L1 X1 e1 hZ hown SN1 CH1 gr1 ⟨rfl, Nq1, Kq1, Sq⟩
  have N1 := N0.app Nq1
  have K2 := K0.trans Kq1 (allS (Or.inl (List.mem_of_getElem? (i := 0) rfl)) all0)
  exact own_ret0W X1 hx hby hZ (own_ew hw) e1 SN1 CH1 hlk hrt od_jdk_42_method_3_9 ⟨rfl, N1, K2, Sq⟩ (by decide) (by decide)
theorem ef_rm_size (m : MethodId) (x0 : Addr) : entryFrame m #[(.ref x0)] 1 = mkF m 0 #[.val (.ref x0)] [] := by first | (simp [entryFrame, mkF, argsToLocals, Value.category]; done) | rfl
set_option maxRecDepth 65536 in
set_option maxHeartbeats 40000000 in
theorem rm_size (l : Launch) (Z : State) (a0 : Array Value) (hw : ∀ d ∈ tables_1, d.before a0 Z = true) (go te : Addr) (ke : ClassId) (h0 : Heap) (n0 : Nat) (Z0 : n0 ≤ h0.size) (F_e : Fld Z h0 go "java/util/ImmutableCollections$ListN" "elements" "[Ljava/lang/Object;" (.ref te)) (V_t : Arv Z h0 te ke (.object "java/lang/Object") (0 : Int32) [] .null) :
    own_Met l Z (⟨"java/util/ImmutableCollections$ListN", "size", "()I"⟩ : MethodName) jdk_45_method_3_code 1 (some .int) ({ frames := 0, cells := 0, slots := 0, locals := 0 } : Room) #[(.ref go)] h0 (fun v h L => v = some (.int (0 : Int32)) ∧ Fr n0 L ∧ h0 = h) := by
  refine own_body (plainFor_of_name (by first | (simp [plainName, overriddenIn]; done) | decide +kernel)) ?_
  intro p e s m below meth c s₁ hx hby hml hown hnm hlk hrt hZ X0 e0
  refine own_enter (ef_rm_size m go) ?_
  have N0 := Fr.nil n0
  refine own_aloadN X0 hx hby od_jdk_45_method_3_0 (pc' := 1) rfl rfl rfl ?_
  refine own_getF X0 hx hby hZ hown (host := "") (Or.inl (ow_82 hw)) Via.refl e0 F_e od_jdk_45_method_3_1 (pc' := 4) rfl ?_
  intro T1 X1 e1
  refine own_alenV X1 hx hby hZ e1 V_t od_jdk_45_method_3_4 (pc' := 5) rfl ?_
  exact own_retI X1 hx hby hlk hrt od_jdk_45_method_3_5 (by first | exact ⟨rfl, N0, rfl⟩ | (rw [e1]; exact ⟨rfl, N0, rfl⟩)) (by decide) (by decide)
theorem ef_rm_litr (m : MethodId) (x0 : Addr) (x1 : Addr) (x2 : Int32) : entryFrame m #[(.ref x0), (.ref x1), (.int x2)] 3 = mkF m 0 #[.val (.ref x0), .val (.ref x1), .val (.int x2)] [] := by first | (simp [entryFrame, mkF, argsToLocals, Value.category]; done) | rfl
set_option maxRecDepth 65536 in
set_option maxHeartbeats 40000000 in
theorem rm_litr (l : Launch) (Z : State) (a0 : Array Value) (hw : ∀ d ∈ tables_1, d.before a0 Z = true) (a1 go : Addr) (h0 : Heap) (n0 : Nat) (Z0 : n0 ≤ h0.size) (n0_a1 : n0 ≤ a1) (A1 : Exa Z h0 a1 "java/util/ImmutableCollections$ListItr") (F_list : Fld Z h0 a1 "java/util/ImmutableCollections$ListItr" "list" "Ljava/util/List;" .null) (F_size : Fld Z h0 a1 "java/util/ImmutableCollections$ListItr" "size" "I" (.int (0 : Int32))) (F_cursor : Fld Z h0 a1 "java/util/ImmutableCollections$ListItr" "cursor" "I" (.int (0 : Int32))) (F_isListIterator : Fld Z h0 a1 "java/util/ImmutableCollections$ListItr" "isListIterator" "Z" (.int (0 : Int32))) :
    own_Met l Z (⟨"java/util/ImmutableCollections$ListItr", "<init>", "(Ljava/util/List;I)V"⟩ : MethodName) jdk_53_method_1_code 3 none ({ frames := 1, cells := 0, slots := 0, locals := 12 } : Room) #[(.ref a1), (.ref go), (.int (0 : Int32))] h0 (fun v h L => v = none ∧ Fr n0 L ∧ Keep h0 h [a1] ∧ Exa Z h a1 "java/util/ImmutableCollections$ListItr" ∧ Fld Z h a1 "java/util/ImmutableCollections$ListItr" "list" "Ljava/util/List;" (.ref go) ∧ Fld Z h a1 "java/util/ImmutableCollections$ListItr" "size" "I" (.int (0 : Int32)) ∧ Fld Z h a1 "java/util/ImmutableCollections$ListItr" "cursor" "I" (.int (0 : Int32)) ∧ Fld Z h a1 "java/util/ImmutableCollections$ListItr" "isListIterator" "Z" (.int (0 : Int32))) := by
  refine own_body (plainFor_of_name (by first | (simp [plainName, overriddenIn]; done) | decide +kernel)) ?_
  intro p e s m below meth c s₁ hx hby hml hown hnm hlk hrt hZ X0 e0
  refine own_enter (ef_rm_litr m a1 go (0 : Int32)) ?_
  have N0 := Fr.nil n0
  have K0 := Keep.refl h0 [a1]
  refine own_aloadN X0 hx hby od_jdk_53_method_1_0 (pc' := 1) rfl rfl rfl ?_
  refine own_initO X0 hx hby hZ hml hown (ow_88 hw) (ow_17 hw) (ow_18 hw) e0 rfl od_jdk_53_method_1_1 (pc' := 4) rfl (by decide) (W := 0) (Nat.le_refl _) (by decide) ?_
  intro T1 X1 e1
  refine own_aloadN X1 hx hby od_jdk_53_method_1_4 (pc' := 5) rfl rfl rfl ?_
  refine own_aloadN X1 hx hby od_jdk_53_method_1_5 (pc' := 6) rfl rfl rfl ?_
  refine own_putF X1 hx hby hZ hown (host := "") (Or.inl (ow_89 hw)) Via.refl e1 F_list A1 (Or.inr ⟨(ow_90 hw), rfl, hnm⟩) (ow_73 hw) (ty := (.object "java/util/List")) (by decide) rfl rfl od_jdk_53_method_1_6 (pc' := 9) rfl ?_
  intro T2 h2 X2 e2 W2 F2_list_a1 A2_a1
  have Fw2_3 := F_size.other W2 (Or.inr (slot_ne (Or.inr (ow_92 hw)) (Or.inr (ow_90 hw)) (by decide) (t := .int) (t' := (.object "java/util/List")) (by decide) (by decide)))
  have Fw2_4 := F_cursor.other W2 (Or.inr (slot_ne (Or.inl (ow_94 hw)) (Or.inr (ow_90 hw)) (by decide) (t := .int) (t' := (.object "java/util/List")) (by decide) (by decide)))
  have Fw2_5 := F_isListIterator.other W2 (Or.inr (slot_ne (Or.inr (ow_96 hw)) (Or.inr (ow_90 hw)) (by decide) (t := .boolean) (t' := (.object "java/util/List")) (by decide) (by decide)))
  have K6 := K0.wr W2 (Or.inl (List.mem_of_getElem? (i := 0) rfl))
  have N2 := own_fr1 (sl := Jvm.RoadKit.slotOf Z "java/util/ImmutableCollections$ListItr" "list" "Ljava/util/List;") N0 n0_a1
  refine own_aloadN X2 hx hby od_jdk_53_method_1_9 (pc' := 10) rfl rfl rfl ?_
  refine own_iloadN X2 hx hby od_jdk_53_method_1_10 (pc' := 11) rfl rfl ?_
  refine own_putF X2 hx hby hZ hown (host := "") (Or.inl (ow_91 hw)) Via.refl e2 Fw2_3 A2_a1 (Or.inr ⟨(ow_92 hw), rfl, hnm⟩) (ow_73 hw) (ty := .int) (by decide) rfl rfl od_jdk_53_method_1_11 (pc' := 14) rfl ?_
  intro T7 h7 X7 e7 W7 F7_size_a1 A7_a1
  have Fw7_8 := F2_list_a1.other W7 (Or.inr (slot_ne (Or.inr (ow_90 hw)) (Or.inr (ow_92 hw)) (by decide) (t := (.object "java/util/List")) (t' := .int) (by decide) (by decide)))
  have Fw7_9 := Fw2_4.other W7 (Or.inr (slot_ne (Or.inl (ow_94 hw)) (Or.inr (ow_92 hw)) (by decide) (t := .int) (t' := .int) (by decide) (by decide)))
  have Fw7_10 := Fw2_5.other W7 (Or.inr (slot_ne (Or.inr (ow_96 hw)) (Or.inr (ow_92 hw)) (by decide) (t := .boolean) (t' := .int) (by decide) (by decide)))
  have K11 := K6.wr W7 (Or.inl (List.mem_of_getElem? (i := 0) rfl))
  have N7 := own_fr1 (sl := Jvm.RoadKit.slotOf Z "java/util/ImmutableCollections$ListItr" "size" "I") N2 n0_a1
  refine own_aloadN X7 hx hby od_jdk_53_method_1_14 (pc' := 15) rfl rfl rfl ?_
  refine own_iconst X7 hx hby od_jdk_53_method_1_15 (pc' := 16) rfl (z := 0) rfl ?_
  refine own_putF X7 hx hby hZ hown (host := "") (Or.inl (ow_93 hw)) Via.refl e7 Fw7_9 A7_a1 (Or.inl (ow_94 hw)) (ow_73 hw) (ty := .int) (by decide) rfl rfl od_jdk_53_method_1_16 (pc' := 19) rfl ?_
  intro T12 h12 X12 e12 W12 F12_cursor_a1 A12_a1
  have Fw12_13 := F7_size_a1.other W12 (Or.inr (slot_ne (Or.inr (ow_92 hw)) (Or.inl (ow_94 hw)) (by decide) (t := .int) (t' := .int) (by decide) (by decide)))
  have Fw12_14 := Fw7_8.other W12 (Or.inr (slot_ne (Or.inr (ow_90 hw)) (Or.inl (ow_94 hw)) (by decide) (t := (.object "java/util/List")) (t' := .int) (by decide) (by decide)))
  have Fw12_15 := Fw7_10.other W12 (Or.inr (slot_ne (Or.inr (ow_96 hw)) (Or.inl (ow_94 hw)) (by decide) (t := .boolean) (t' := .int) (by decide) (by decide)))
  have K16 := K11.wr W12 (Or.inl (List.mem_of_getElem? (i := 0) rfl))
  have N12 := own_fr1 (sl := Jvm.RoadKit.slotOf Z "java/util/ImmutableCollections$ListItr" "cursor" "I") N7 n0_a1
  refine own_aloadN X12 hx hby od_jdk_53_method_1_19 (pc' := 20) rfl rfl rfl ?_
  refine own_iconst X12 hx hby od_jdk_53_method_1_20 (pc' := 21) rfl (z := 0) rfl ?_
  refine own_putFN X12 hx hby hZ hown (ow_95 hw) Via.refl e12 Fw12_15 A12_a1 (Or.inr ⟨(ow_96 hw), rfl, hnm⟩) (ow_73 hw) (ty := .boolean) (v' := (.int (0 : Int32))) (by decide) rfl rfl od_jdk_53_method_1_21 (pc' := 24) rfl ?_
  intro T17 h17 X17 e17 W17 F17_isListIterator_a1 A17_a1
  have Fw17_18 := F12_cursor_a1.other W17 (Or.inr (slot_ne (Or.inl (ow_94 hw)) (Or.inr (ow_96 hw)) (by decide) (t := .int) (t' := .boolean) (by decide) (by decide)))
  have Fw17_19 := Fw12_13.other W17 (Or.inr (slot_ne (Or.inr (ow_92 hw)) (Or.inr (ow_96 hw)) (by decide) (t := .int) (t' := .boolean) (by decide) (by decide)))
  have Fw17_20 := Fw12_14.other W17 (Or.inr (slot_ne (Or.inr (ow_90 hw)) (Or.inr (ow_96 hw)) (by decide) (t := (.object "java/util/List")) (t' := .boolean) (by decide) (by decide)))
  have K21 := K16.wr W17 (Or.inl (List.mem_of_getElem? (i := 0) rfl))
  have N17 := own_fr1 (sl := Jvm.RoadKit.slotOf Z "java/util/ImmutableCollections$ListItr" "isListIterator" "Z") N12 n0_a1
  exact own_ret0 X17 hx hby hlk hrt od_jdk_53_method_1_24 (by first | exact ⟨rfl, N17, K21, A17_a1, Fw17_20, Fw17_19, Fw17_18, F17_isListIterator_a1⟩ | (rw [e17]; exact ⟨rfl, N17, K21, A17_a1, Fw17_20, Fw17_19, Fw17_18, F17_isListIterator_a1⟩)) (by decide) (by decide)
theorem ef_rm_iter (m : MethodId) (x0 : Addr) : entryFrame m #[(.ref x0)] 1 = mkF m 0 #[.val (.ref x0)] [] := by first | (simp [entryFrame, mkF, argsToLocals, Value.category]; done) | rfl
set_option maxRecDepth 65536 in
set_option maxHeartbeats 40000000 in
theorem rm_iter (l : Launch) (Z : State) (a0 : Array Value) (hw : ∀ d ∈ tables_1, d.before a0 Z = true) (go te : Addr) (ke : ClassId) (h0 : Heap) (n0 : Nat) (Z0 : n0 ≤ h0.size) (A_o : Exa Z h0 go "java/util/ImmutableCollections$ListN") (F_e : Fld Z h0 go "java/util/ImmutableCollections$ListN" "elements" "[Ljava/lang/Object;" (.ref te)) (V_t : Arv Z h0 te ke (.object "java/lang/Object") (0 : Int32) [] .null) :
    own_Met l Z (⟨"java/util/ImmutableCollections$AbstractImmutableList", "iterator", "()Ljava/util/Iterator;"⟩ : MethodName) jdk_46_method_10_code 1 (some (.object "java/util/Iterator")) ({ frames := 2, cells := 1, slots := 4, locals := 27 } : Room) #[(.ref go)] h0 (fun v h L => ∃ r : Addr, v = some (.ref r) ∧ Ext h0 h ∧ Fr n0 L ∧ Exa Z h r "java/util/ImmutableCollections$ListItr" ∧ Fld Z h r "java/util/ImmutableCollections$ListItr" "size" "I" (.int (0 : Int32)) ∧ Fld Z h r "java/util/ImmutableCollections$ListItr" "cursor" "I" (.int (0 : Int32))) := by
  refine own_body (plainFor_of_name (by first | (simp [plainName, overriddenIn]; done) | decide +kernel)) ?_
  intro p e s m below meth c s₁ hx hby hml hown hnm hlk hrt hZ X0 e0
  refine own_enter (ef_rm_iter m go) ?_
  have N0 := Fr.nil n0
  refine own_newO X0 hx hby hZ hown (ow_72 hw) (ow_73 hw) (ow_74 hw) e0 od_jdk_46_method_10_0 (pc' := 3) rfl (by decide) (by decide) ?_
  intro T1 h1 b1 g1 X1 e1 E1 AX1 D1
  have le2 : h0.size ≤ b1 := Nat.le_of_eq g1.symm
  have n0_b1 : n0 ≤ b1 := Nat.le_trans Z0 (Nat.le_of_eq g1.symm)
  have F_list_b1 : Fld Z h1 b1 "java/util/ImmutableCollections$ListItr" "list" "Ljava/util/List;" .null := D1 (Or.inr (ow_90 hw)) (ty := (.object "java/util/List")) (by decide)
  have F_size_b1 : Fld Z h1 b1 "java/util/ImmutableCollections$ListItr" "size" "I" (.int (0 : Int32)) := D1 (Or.inr (ow_92 hw)) (ty := .int) (by decide)
  have F_cursor_b1 : Fld Z h1 b1 "java/util/ImmutableCollections$ListItr" "cursor" "I" (.int (0 : Int32)) := D1 (Or.inl (ow_94 hw)) (ty := .int) (by decide)
  have F_isListIterator_b1 : Fld Z h1 b1 "java/util/ImmutableCollections$ListItr" "isListIterator" "Z" (.int (0 : Int32)) := D1 (Or.inr (ow_96 hw)) (ty := .boolean) (by decide)
  refine own_dup X1 hx hby od_jdk_46_method_10_3 (pc' := 4) rfl rfl ?_
  refine own_aloadN X1 hx hby od_jdk_46_method_10_4 (pc' := 5) rfl rfl rfl ?_
  refine own_aloadN X1 hx hby od_jdk_46_method_10_5 (pc' := 6) rfl rfl rfl ?_
  refine own_upM X1 hx hby hml hZ hown (mvT hZ (ow_75 hw)) (mvT hZ (ow_76 hw)) (mvT hZ (ow_77 hw)) (by decide) (mvT hZ (ow_78 hw)) (mvT hZ (ow_79 hw)) (ow_80 hw) (ow_81 hw) (cc := 0) (ss := 0) (rm_size l Z a0 hw go te ke h1 n0 (Nat.le_trans Z0 E1.1) (F_e.ext E1) (V_t.ext E1)) 3 rfl rfl (by decide) (by decide) rfl (A_o.ext E1) (argsL := []) (rest := [(.ref go), (.ref b1), (.ref b1)]) opd_4 rfl rfl (Nat.le_refl _) od_jdk_46_method_10_6 (pc' := 9) rfl rfl e1 (by decide) (by decide) ?_
  rintro v3 T3 h3 L3 X3 e3 ⟨rfl, Nq3, rfl⟩
  have N3 := N0.app Nq3
  refine own_specM X3 hx hby hml hZ hown rfl (ow_84 hw) (ow_85 hw) (ow_74 hw) (ow_87 hw) (by decide) (cc := 0) (ss := 0) (rm_litr l Z a0 hw b1 go h1 n0 (Nat.le_trans Z0 E1.1) n0_b1 AX1 F_list_b1 F_size_b1 F_cursor_b1 F_isListIterator_b1) 1 rfl rfl (by decide) (by decide) rfl (argsL := [(.ref go), (.int (0 : Int32))]) (rest := [(.ref b1)]) opd_5 rfl rfl (Nat.le_refl _) od_jdk_46_method_10_9 (pc' := 12) rfl rfl e3 (by decide) (by decide) ?_
  rintro v4 T4 h4 L4 X4 e4 ⟨rfl, Nq4, Kq4, Br, B1, B2, B3, B4⟩
  have N4 := N3.app Nq4
  have Ea5 := own_xk E1 Kq4 (allS le2 all0)
  replace A_o := A_o.ext Ea5
  replace F_e := F_e.ext Ea5
  replace V_t := V_t.ext Ea5
  exact own_retA X4 hx hby hlk hrt rfl rfl od_jdk_46_method_10_12 (by first | exact ⟨b1, rfl, Ea5, N4, Br, B2, B3⟩ | (rw [e4]; exact ⟨b1, rfl, Ea5, N4, Br, B2, B3⟩)) (by decide) (by decide)
theorem ef_rm_hasNext (m : MethodId) (x0 : Addr) : entryFrame m #[(.ref x0)] 1 = mkF m 0 #[.val (.ref x0)] [] := by first | (simp [entryFrame, mkF, argsToLocals, Value.category]; done) | rfl
set_option maxRecDepth 65536 in
set_option maxHeartbeats 40000000 in
theorem rm_hasNext (l : Launch) (Z : State) (a0 : Array Value) (hw : ∀ d ∈ tables_1, d.before a0 Z = true) (a1 : Addr) (h0 : Heap) (n0 : Nat) (Z0 : n0 ≤ h0.size) (F1 : Fld Z h0 a1 "java/util/ImmutableCollections$ListItr" "size" "I" (.int (0 : Int32))) (F2 : Fld Z h0 a1 "java/util/ImmutableCollections$ListItr" "cursor" "I" (.int (0 : Int32))) :
    own_Met l Z (⟨"java/util/ImmutableCollections$ListItr", "hasNext", "()Z"⟩ : MethodName) jdk_53_method_3_code 1 (some .boolean) ({ frames := 0, cells := 0, slots := 0, locals := 0 } : Room) #[(.ref a1)] h0 (fun v h L => v = some (.int (0 : Int32)) ∧ Fr n0 L ∧ h0 = h) := by
  refine own_body (plainFor_of_name (by first | (simp [plainName, overriddenIn]; done) | decide +kernel)) ?_
  intro p e s m below meth c s₁ hx hby hml hown hnm hlk hrt hZ X0 e0
  refine own_enter (ef_rm_hasNext m a1) ?_
  have N0 := Fr.nil n0
  refine own_aloadN X0 hx hby od_jdk_53_method_3_0 (pc' := 1) rfl rfl rfl ?_
  refine own_getF X0 hx hby hZ hown (host := "") (Or.inl (ow_93 hw)) Via.refl e0 F2 od_jdk_53_method_3_1 (pc' := 4) rfl ?_
  intro T1 X1 e1
  refine own_aloadN X1 hx hby od_jdk_53_method_3_4 (pc' := 5) rfl rfl rfl ?_
  refine own_getF X1 hx hby hZ hown (host := "") (Or.inl (ow_91 hw)) Via.refl e1 F1 od_jdk_53_method_3_5 (pc' := 8) rfl ?_
  intro T2 X2 e2
  refine own_icmpY X2 hx hby od_jdk_53_method_3_8 (by decide) (pc' := 15) (by decide) (teq rfl).1 ?_
  refine own_iconst X2 hx hby od_jdk_53_method_3_15 (pc' := 16) rfl (z := 0) rfl ?_
  exact own_retN X2 hx hby hlk hrt (by simp) od_jdk_53_method_3_16 (z' := (0 : Int32)) rfl (by first | exact ⟨rfl, N0, rfl⟩ | (rw [e2]; exact ⟨rfl, N0, rfl⟩)) (by decide) (by decide)
theorem ef_rm_of (m : MethodId)  : entryFrame m #[] 0 = mkF m 0 #[] [] := by first | (simp [entryFrame, mkF, argsToLocals, Value.category]; done) | rfl
set_option maxRecDepth 65536 in
set_option maxHeartbeats 40000000 in
theorem rm_of (l : Launch) (Z : State) (a0 : Array Value) (hw : ∀ d ∈ tables_1, d.before a0 Z = true) (go : Addr) (h0 : Heap) (n0 : Nat) (Z0 : n0 ≤ h0.size) (S_l : Sta Z h0 "java/util/ImmutableCollections" "EMPTY_LIST" "Ljava/util/ImmutableCollections$ListN;" (.ref go)) :
    own_Met l Z (⟨"java/util/List", "of", "()Ljava/util/List;"⟩ : MethodName) jdk_40_method_36_code 0 (some (.object "java/util/List")) ({ frames := 0, cells := 0, slots := 0, locals := 0 } : Room) #[] h0 (fun v h L => v = some (.ref go) ∧ Fr n0 L ∧ h0 = h) := by
  refine own_body (plainFor_of_name (by first | (simp [plainName, overriddenIn]; done) | decide +kernel)) ?_
  intro p e s m below meth c s₁ hx hby hml hown hnm hlk hrt hZ X0 e0
  refine own_enter (ef_rm_of m ) ?_
  have N0 := Fr.nil n0
  refine own_getS X0 hx hby hZ hown (host := "") (Or.inl (ow_45 hw)) Via.refl e0 S_l od_jdk_40_method_36_0 (pc' := 3) rfl ?_
  intro T1 X1 e1
  exact own_retA X1 hx hby hlk hrt rfl rfl od_jdk_40_method_36_3 (by first | exact ⟨rfl, N0, rfl⟩ | (rw [e1]; exact ⟨rfl, N0, rfl⟩)) (by decide) (by decide)
theorem ef_rm_rr (m : MethodId) (x0 : Addr) (x1 : Addr) (x2 : Addr) : entryFrame m #[(.ref x0), (.ref x1), (.ref x2)] 3 = mkF m 0 #[.val (.ref x0), .val (.ref x1), .val (.ref x2)] [] := by first | (simp [entryFrame, mkF, argsToLocals, Value.category]; done) | rfl
set_option maxRecDepth 65536 in
set_option maxHeartbeats 40000000 in
theorem rm_rr (l : Launch) (Z : State) (a0 : Array Value) (hw : ∀ d ∈ tables_1, d.before a0 Z = true) (a1 go gd : Addr) (h0 : Heap) (n0 : Nat) (Z0 : n0 ≤ h0.size) (n0_a1 : n0 ≤ a1) (A1 : Exa Z h0 a1 "com/example/structured_data_crawler/structureddatacrawler/crawl/RobotsRules") (F_rules : Fld Z h0 a1 "com/example/structured_data_crawler/structureddatacrawler/crawl/RobotsRules" "rules" "Ljava/util/List;" .null) (F_crawlDelay : Fld Z h0 a1 "com/example/structured_data_crawler/structureddatacrawler/crawl/RobotsRules" "crawlDelay" "Ljava/time/Duration;" .null) :
    own_Met l Z (⟨"com/example/structured_data_crawler/structureddatacrawler/crawl/RobotsRules", "<init>", "(Ljava/util/List;Ljava/time/Duration;)V"⟩ : MethodName) prog_10_method_1_code 3 none ({ frames := 1, cells := 0, slots := 0, locals := 12 } : Room) #[(.ref a1), (.ref go), (.ref gd)] h0 (fun v h L => v = none ∧ Fr n0 L ∧ Keep h0 h [a1] ∧ Exa Z h a1 "com/example/structured_data_crawler/structureddatacrawler/crawl/RobotsRules" ∧ Fld Z h a1 "com/example/structured_data_crawler/structureddatacrawler/crawl/RobotsRules" "rules" "Ljava/util/List;" (.ref go) ∧ Fld Z h a1 "com/example/structured_data_crawler/structureddatacrawler/crawl/RobotsRules" "crawlDelay" "Ljava/time/Duration;" (.ref gd)) := by
  refine own_body (plainFor_of_name (by first | (simp [plainName, overriddenIn]; done) | decide +kernel)) ?_
  intro p e s m below meth c s₁ hx hby hml hown hnm hlk hrt hZ X0 e0
  refine own_enter (ef_rm_rr m a1 go gd) ?_
  have N0 := Fr.nil n0
  have K0 := Keep.refl h0 [a1]
  refine own_aloadN X0 hx hby od_prog_10_method_1_0 (pc' := 1) rfl rfl rfl ?_
  refine own_initO X0 hx hby hZ hml hown (ow_52 hw) (ow_17 hw) (ow_18 hw) e0 rfl od_prog_10_method_1_1 (pc' := 4) rfl (by decide) (W := 0) (Nat.le_refl _) (by decide) ?_
  intro T1 X1 e1
  refine own_aloadN X1 hx hby od_prog_10_method_1_4 (pc' := 5) rfl rfl rfl ?_
  refine own_aloadN X1 hx hby od_prog_10_method_1_5 (pc' := 6) rfl rfl rfl ?_
  refine own_putF X1 hx hby hZ hown (host := "") (Or.inl (ow_53 hw)) Via.refl e1 F_rules A1 (Or.inr ⟨(ow_54 hw), rfl, hnm⟩) (ow_40 hw) (ty := (.object "java/util/List")) (by decide) rfl rfl od_prog_10_method_1_6 (pc' := 9) rfl ?_
  intro T2 h2 X2 e2 W2 F2_rules_a1 A2_a1
  have Fw2_3 := F_crawlDelay.other W2 (Or.inr (slot_ne (Or.inr (ow_56 hw)) (Or.inr (ow_54 hw)) (by decide) (t := (.object "java/time/Duration")) (t' := (.object "java/util/List")) (by decide) (by decide)))
  have K4 := K0.wr W2 (Or.inl (List.mem_of_getElem? (i := 0) rfl))
  have N2 := own_fr1 (sl := Jvm.RoadKit.slotOf Z "com/example/structured_data_crawler/structureddatacrawler/crawl/RobotsRules" "rules" "Ljava/util/List;") N0 n0_a1
  refine own_aloadN X2 hx hby od_prog_10_method_1_9 (pc' := 10) rfl rfl rfl ?_
  refine own_aloadN X2 hx hby od_prog_10_method_1_10 (pc' := 11) rfl rfl rfl ?_
  refine own_putF X2 hx hby hZ hown (host := "") (Or.inl (ow_55 hw)) Via.refl e2 Fw2_3 A2_a1 (Or.inr ⟨(ow_56 hw), rfl, hnm⟩) (ow_40 hw) (ty := (.object "java/time/Duration")) (by decide) rfl rfl od_prog_10_method_1_11 (pc' := 14) rfl ?_
  intro T5 h5 X5 e5 W5 F5_crawlDelay_a1 A5_a1
  have Fw5_6 := F2_rules_a1.other W5 (Or.inr (slot_ne (Or.inr (ow_54 hw)) (Or.inr (ow_56 hw)) (by decide) (t := (.object "java/util/List")) (t' := (.object "java/time/Duration")) (by decide) (by decide)))
  have K7 := K4.wr W5 (Or.inl (List.mem_of_getElem? (i := 0) rfl))
  have N5 := own_fr1 (sl := Jvm.RoadKit.slotOf Z "com/example/structured_data_crawler/structureddatacrawler/crawl/RobotsRules" "crawlDelay" "Ljava/time/Duration;") N2 n0_a1
  exact own_ret0 X5 hx hby hlk hrt od_prog_10_method_1_14 (by first | exact ⟨rfl, N5, K7, A5_a1, Fw5_6, F5_crawlDelay_a1⟩ | (rw [e5]; exact ⟨rfl, N5, K7, A5_a1, Fw5_6, F5_crawlDelay_a1⟩)) (by decide) (by decide)
theorem ef_rm_allowAll (m : MethodId)  : entryFrame m #[] 0 = mkF m 0 #[] [] := by first | (simp [entryFrame, mkF, argsToLocals, Value.category]; done) | rfl
set_option maxRecDepth 65536 in
set_option maxHeartbeats 40000000 in
theorem rm_allowAll (l : Launch) (Z : State) (a0 : Array Value) (hw : ∀ d ∈ tables_1, d.before a0 Z = true) (go gd : Addr) (h0 : Heap) (n0 : Nat) (Z0 : n0 ≤ h0.size) (S_l : Sta Z h0 "java/util/ImmutableCollections" "EMPTY_LIST" "Ljava/util/ImmutableCollections$ListN;" (.ref go)) (S_d : Sta Z h0 "java/time/Duration" "ZERO" "Ljava/time/Duration;" (.ref gd)) :
    own_Met l Z (⟨"com/example/structured_data_crawler/structureddatacrawler/crawl/RobotsRules", "allowAll", "()Lcom/example/structured_data_crawler/structureddatacrawler/crawl/RobotsRules;"⟩ : MethodName) prog_10_method_3_code 0 (some (.object "com/example/structured_data_crawler/structureddatacrawler/crawl/RobotsRules")) ({ frames := 2, cells := 1, slots := 2, locals := 27 } : Room) #[] h0 (fun v h L => ∃ r : Addr, v = some (.ref r) ∧ Ext h0 h ∧ Fr n0 L ∧ Exa Z h r "com/example/structured_data_crawler/structureddatacrawler/crawl/RobotsRules" ∧ Fld Z h r "com/example/structured_data_crawler/structureddatacrawler/crawl/RobotsRules" "rules" "Ljava/util/List;" (.ref go) ∧ Fld Z h r "com/example/structured_data_crawler/structureddatacrawler/crawl/RobotsRules" "crawlDelay" "Ljava/time/Duration;" (.ref gd)) := by
  refine own_body (plainFor_of_name (by first | (simp [plainName, overriddenIn]; done) | decide +kernel)) ?_
  intro p e s m below meth c s₁ hx hby hml hown hnm hlk hrt hZ X0 e0
  refine own_enter (ef_rm_allowAll m ) ?_
  have N0 := Fr.nil n0
  refine own_newO X0 hx hby hZ hown (ow_39 hw) (ow_40 hw) (ow_37 hw) e0 od_prog_10_method_3_0 (pc' := 3) rfl (by decide) (by decide) ?_
  intro T1 h1 b1 g1 X1 e1 E1 AX1 D1
  have le2 : h0.size ≤ b1 := Nat.le_of_eq g1.symm
  have n0_b1 : n0 ≤ b1 := Nat.le_trans Z0 (Nat.le_of_eq g1.symm)
  have F_rules_b1 : Fld Z h1 b1 "com/example/structured_data_crawler/structureddatacrawler/crawl/RobotsRules" "rules" "Ljava/util/List;" .null := D1 (Or.inr (ow_54 hw)) (ty := (.object "java/util/List")) (by decide)
  have F_crawlDelay_b1 : Fld Z h1 b1 "com/example/structured_data_crawler/structureddatacrawler/crawl/RobotsRules" "crawlDelay" "Ljava/time/Duration;" .null := D1 (Or.inr (ow_56 hw)) (ty := (.object "java/time/Duration")) (by decide)
  refine own_dup X1 hx hby od_prog_10_method_3_3 (pc' := 4) rfl rfl ?_
  refine own_callM X1 hx hby hml hZ hown (ow_41 hw) (ow_42 hw) (ow_43 hw) (ow_44 hw) (by decide) (cc := 0) (ss := 0) (rm_of l Z a0 hw go h1 n0 (Nat.le_trans Z0 E1.1) (S_l.ext E1)) 2 rfl rfl (by decide) (by decide) rfl (argsL := []) (rest := [(.ref b1), (.ref b1)]) opd_6 rfl rfl (Nat.le_refl _) od_prog_10_method_3_4 (pc' := 7) rfl rfl e1 (by decide) (by decide) ?_
  rintro v3 T3 h3 L3 X3 e3 ⟨rfl, Nq3, rfl⟩
  have N3 := N0.app Nq3
  refine own_getS X3 hx hby hZ hown (host := "") (Or.inl (ow_47 hw)) Via.refl e3 (S_d.ext E1) od_prog_10_method_3_7 (pc' := 10) rfl ?_
  intro T4 X4 e4
  refine own_specM X4 hx hby hml hZ hown rfl (ow_49 hw) (ow_50 hw) (ow_37 hw) (ow_51 hw) (by decide) (cc := 0) (ss := 0) (rm_rr l Z a0 hw b1 go gd h1 n0 (Nat.le_trans Z0 E1.1) n0_b1 AX1 F_rules_b1 F_crawlDelay_b1) 1 rfl rfl (by decide) (by decide) rfl (argsL := [(.ref go), (.ref gd)]) (rest := [(.ref b1)]) opd_7 rfl rfl (Nat.le_refl _) od_prog_10_method_3_10 (pc' := 13) rfl rfl e4 (by decide) (by decide) ?_
  rintro v5 T5 h5 L5 X5 e5 ⟨rfl, Nq5, Kq5, Br, B1, B2⟩
  have N5 := N3.app Nq5
  have Ea6 := own_xk E1 Kq5 (allS le2 all0)
  replace S_l := S_l.ext Ea6
  replace S_d := S_d.ext Ea6
  exact own_retA X5 hx hby hlk hrt rfl rfl od_prog_10_method_3_13 (by first | exact ⟨b1, rfl, Ea6, N5, Br, B1, B2⟩ | (rw [e5]; exact ⟨b1, rfl, Ea6, N5, Br, B1, B2⟩)) (by decide) (by decide)
theorem ef_rm_allows (m : MethodId) (x0 : Addr) (x1 : Addr) : entryFrame m #[(.ref x0), (.ref x1)] 5 = mkF m 0 #[.val (.ref x0), .val (.ref x1), .unset, .unset, .unset] [] := by first | (simp [entryFrame, mkF, argsToLocals, Value.category]; done) | rfl
set_option maxRecDepth 65536 in
set_option maxHeartbeats 40000000 in
theorem rm_allows (l : Launch) (Z : State) (a0 : Array Value) (hw : ∀ d ∈ tables_1, d.before a0 Z = true) (a1 nm go te : Addr) (ke : ClassId) (cs : List Int32) (G1 : Int32) (h0 : Heap) (n0 : Nat) (Z0 : n0 ≤ h0.size) (S_cs : Sta Z h0 "java/lang/String" "COMPACT_STRINGS" "Z" (.int G1)) (P5 : ¬ (G1 = (0 : Int32))) (O_nm : own_Nm Z h0 nm cs) (F_r : Fld Z h0 a1 "com/example/structured_data_crawler/structureddatacrawler/crawl/RobotsRules" "rules" "Ljava/util/List;" (.ref go)) (A_o : Exa Z h0 go "java/util/ImmutableCollections$ListN") (F_e : Fld Z h0 go "java/util/ImmutableCollections$ListN" "elements" "[Ljava/lang/Object;" (.ref te)) (V_t : Arv Z h0 te ke (.object "java/lang/Object") (0 : Int32) [] .null) :
    own_MetW l Z own_EL (⟨"com/example/structured_data_crawler/structureddatacrawler/crawl/RobotsRules", "allows", "(Ljava/lang/String;)Z"⟩ : MethodName) prog_10_method_7_code 5 (some .boolean) ({ frames := 3, cells := 3, slots := 52, locals := 39 } : Room) #[(.ref a1), (.ref nm)] h0 (fun v h L => v = some (.int (1 : Int32)) ∧ Ext h0 h ∧ Fr n0 L) := by
  refine own_bodyW (plainFor_of_name (by first | (simp [plainName, overriddenIn]; done) | decide +kernel)) ?_
  intro p e s m below meth c s₁ vm0 hx hby hml hown hnm hlk hrt hZ hZ0 SN CH X0 e0
  refine own_enter (ef_rm_allows m a1 nm) ?_
  have N0 := Fr.nil n0
  have A_nm := O_nm.1.1
  refine own_aconst_null X0 hx hby od_prog_10_method_7_0 (pc' := 1) rfl ?_
  refine own_astoreN X0 hx hby od_prog_10_method_7_1 (pc' := 2) rfl rfl (Ls' := #[.val (.ref a1), .val (.ref nm), .val .null, .unset, .unset]) rfl ?_
  refine own_aloadN X0 hx hby od_prog_10_method_7_2 (pc' := 3) rfl rfl rfl ?_
  refine own_getF X0 hx hby hZ hown (host := "") (Or.inl (ow_53 hw)) Via.refl e0 F_r od_prog_10_method_7_3 (pc' := 6) rfl ?_
  intro T1 X1 e1
  refine own_intfM X1 hx hby hml hZ hown (mvT hZ (ow_62 hw)) (mvT hZ (ow_63 hw)) (mvT hZ (ow_64 hw)) (mvT hZ (ow_65 hw)) (mvT hZ (ow_66 hw)) (mvT hZ (ow_67 hw)) (mvT hZ (ow_68 hw)) (mvT hZ (ow_69 hw)) (ow_70 hw) (ow_71 hw) (by decide) (cc := 1) (ss := 4) (rm_iter l Z a0 hw go te ke h0 n0 Z0 A_o F_e V_t) 0 rfl rfl (by decide) (by decide) rfl A_o (argsL := []) (rest := []) opd_8 rfl rfl (Nat.le_refl _) od_prog_10_method_7_6 (pc' := 11) rfl rfl e1 (by decide) (by decide) ?_
  rintro v2 T2 h2 L2 X2 e2 ⟨ri, rfl, Eq2, Nq2, A_ri, I1, I2⟩
  have N2 := N0.app Nq2
  replace SN := SN.ext Eq2
  replace CH := CH.ext Eq2
  replace S_cs := S_cs.ext Eq2
  replace O_nm := O_nm.ext Eq2
  replace A_nm := A_nm.ext Eq2
  replace F_r := F_r.ext Eq2
  replace A_o := A_o.ext Eq2
  replace F_e := F_e.ext Eq2
  replace V_t := V_t.ext Eq2
  refine own_astoreN X2 hx hby od_prog_10_method_7_11 (pc' := 12) rfl rfl (Ls' := #[.val (.ref a1), .val (.ref nm), .val .null, .val (.ref ri), .unset]) rfl ?_
  refine own_aloadN X2 hx hby od_prog_10_method_7_12 (pc' := 13) rfl rfl rfl ?_
  refine own_intfM X2 hx hby hml hZ hown (mvT hZ (ow_97 hw)) (mvT hZ (ow_98 hw)) (mvT hZ (ow_99 hw)) (mvT hZ (ow_100 hw)) (mvT hZ (ow_101 hw)) (mvT hZ (ow_102 hw)) (mvT hZ (ow_103 hw)) (mvT hZ (ow_104 hw)) (ow_74 hw) (ow_105 hw) (by decide) (cc := 0) (ss := 0) (rm_hasNext l Z a0 hw ri h2 n0 (Nat.le_trans Z0 Eq2.1) I1 I2) 0 rfl rfl (by decide) (by decide) rfl A_ri (argsL := []) (rest := []) opd_9 rfl rfl (Nat.le_refl _) od_prog_10_method_7_13 (pc' := 18) rfl rfl e2 (by decide) (by decide) ?_
  rintro v3 T3 h3 L3 X3 e3 ⟨rfl, Nq3, rfl⟩
  have N3 := N2.app Nq3
  refine own_ifY X3 hx hby od_prog_10_method_7_18 (by decide) (pc' := 83) (by decide) (teq rfl).1 ?_
  refine own_aloadN X3 hx hby od_prog_10_method_7_83 (pc' := 84) rfl rfl rfl ?_
  refine own_ldcC X3 hx hby hZ hown SN CH (own_ew hw) (own_ws hw) (ow_106 hw) e3 od_prog_10_method_7_84 (pc' := 86) rfl (n := 44) (by decide) (by decide) (by decide) (by decide) (by decide) [(47 : Int32), (114 : Int32), (111 : Int32), (98 : Int32), (111 : Int32), (116 : Int32), (115 : Int32), (46 : Int32), (116 : Int32), (120 : Int32), (116 : Int32)] ⟨by decide, by decide⟩ (by decide) (by decide) (by decide) ?_
  intro T4 vm4 h4 q4 X4 e4 hZ hown SN4 CH4 E4 S_q4
  have Ea5 := own_xt Eq2 E4
  have A_q4 := S_q4.exa
  replace S_cs := S_cs.ext E4
  replace O_nm := O_nm.ext E4
  replace A_nm := A_nm.ext E4
  replace F_r := F_r.ext E4
  replace A_o := A_o.ext E4
  replace F_e := F_e.ext E4
  replace V_t := V_t.ext E4
  replace A_ri := A_ri.ext E4
  refine own_virt X4 hx hby hml hZ hown (ow_109 hw) (ow_110 hw) (notFace_of_selects (args := #[]) (mvT hZ (ow_112 hw))) (ow_112 hw) (ow_111 hw) (by decide) (cc := 0) (ss := 0) (own_eqB (W := 0) hZ hw O_nm.1 (Nat.le_trans O_nm.2 (by decide)) S_q4 (by decide) S_cs P5 (by decide) (by decide)) rfl A_nm (argsL := [(.ref q4)]) (rest := []) opd_10 rfl rfl (Nat.le_refl _) od_prog_10_method_7_86 (pc' := 89) rfl rfl e4 (by decide) (by decide) ?_
  rintro v6 T6 h6 L6 X6 e6 ⟨hv6, hl6, hh6⟩
  subst hl6
  obtain rfl := hh6.symm
  have N6 := N3.app (Fr.nil n0)
  rcases hv6 with ⟨rfl, hq6⟩ | ⟨rfl, hq6⟩
  · refine own_ifY X6 hx hby od_prog_10_method_7_89 (by decide) (pc' := 103) (by decide) (feq (by decide)).2 ?_
    refine own_iconst X6 hx hby od_prog_10_method_7_103 (pc' := 104) rfl (z := 1) rfl ?_
    refine own_goto X6 hx hby od_prog_10_method_7_104 (by decide) (pc' := 108) (by decide) ?_
    exact own_retNW X6 hx hby hZ (own_ew hw) e6 SN4 CH4 hlk hrt (by simp) od_prog_10_method_7_108 (z' := (1 : Int32)) rfl ⟨rfl, Ea5, N6⟩ (by decide) (by decide)
  · refine own_ifN X6 hx hby od_prog_10_method_7_89 (pc' := 92) rfl (teq rfl).2 ?_
    refine own_aloadN X6 hx hby od_prog_10_method_7_92 (pc' := 93) rfl rfl rfl ?_
    refine own_ifnullY X6 hx hby od_prog_10_method_7_93 (by decide) (pc' := 103) (by decide) ?_
    refine own_iconst X6 hx hby od_prog_10_method_7_103 (pc' := 104) rfl (z := 1) rfl ?_
    refine own_goto X6 hx hby od_prog_10_method_7_104 (by decide) (pc' := 108) (by decide) ?_
    exact own_retNW X6 hx hby hZ (own_ew hw) e6 SN4 CH4 hlk hrt (by simp) od_prog_10_method_7_108 (z' := (1 : Int32)) rfl ⟨rfl, Ea5, N6⟩ (by decide) (by decide)
theorem ef_rm_delay (m : MethodId) (x0 : Addr) : entryFrame m #[(.ref x0)] 1 = mkF m 0 #[.val (.ref x0)] [] := by first | (simp [entryFrame, mkF, argsToLocals, Value.category]; done) | rfl
set_option maxRecDepth 65536 in
set_option maxHeartbeats 40000000 in
theorem rm_delay (l : Launch) (Z : State) (a0 : Array Value) (hw : ∀ d ∈ tables_1, d.before a0 Z = true) (a1 gd : Addr) (h0 : Heap) (n0 : Nat) (Z0 : n0 ≤ h0.size) (F1 : Fld Z h0 a1 "com/example/structured_data_crawler/structureddatacrawler/crawl/RobotsRules" "crawlDelay" "Ljava/time/Duration;" (.ref gd)) :
    own_Met l Z (⟨"com/example/structured_data_crawler/structureddatacrawler/crawl/RobotsRules", "crawlDelay", "()Ljava/time/Duration;"⟩ : MethodName) prog_10_method_8_code 1 (some (.object "java/time/Duration")) ({ frames := 0, cells := 0, slots := 0, locals := 0 } : Room) #[(.ref a1)] h0 (fun v h L => v = some (.ref gd) ∧ Fr n0 L ∧ h0 = h) := by
  refine own_body (plainFor_of_name (by first | (simp [plainName, overriddenIn]; done) | decide +kernel)) ?_
  intro p e s m below meth c s₁ hx hby hml hown hnm hlk hrt hZ X0 e0
  refine own_enter (ef_rm_delay m a1) ?_
  have N0 := Fr.nil n0
  refine own_aloadN X0 hx hby od_prog_10_method_8_0 (pc' := 1) rfl rfl rfl ?_
  refine own_getF X0 hx hby hZ hown (host := "") (Or.inl (ow_55 hw)) Via.refl e0 F1 od_prog_10_method_8_1 (pc' := 4) rfl ?_
  intro T1 X1 e1
  exact own_retA X1 hx hby hlk hrt rfl rfl od_prog_10_method_8_4 (by first | exact ⟨rfl, N0, rfl⟩ | (rw [e1]; exact ⟨rfl, N0, rfl⟩)) (by decide) (by decide)
theorem ef_rm_isZero (m : MethodId) (x0 : Addr) : entryFrame m #[(.ref x0)] 1 = mkF m 0 #[.val (.ref x0)] [] := by first | (simp [entryFrame, mkF, argsToLocals, Value.category]; done) | rfl
set_option maxRecDepth 65536 in
set_option maxHeartbeats 40000000 in
theorem rm_isZero (l : Launch) (Z : State) (a0 : Array Value) (hw : ∀ d ∈ tables_1, d.before a0 Z = true) (gd : Addr) (h0 : Heap) (n0 : Nat) (Z0 : n0 ≤ h0.size) (F_s : Fld Z h0 gd "java/time/Duration" "seconds" "J" (.long (0 : Int64))) (F_n : Fld Z h0 gd "java/time/Duration" "nanos" "I" (.int (0 : Int32))) :
    own_Met l Z (⟨"java/time/Duration", "isZero", "()Z"⟩ : MethodName) jdk_2316_method_21_code 1 (some .boolean) ({ frames := 0, cells := 0, slots := 0, locals := 0 } : Room) #[(.ref gd)] h0 (fun v h L => v = some (.int (1 : Int32)) ∧ Fr n0 L ∧ h0 = h) := by
  refine own_body (plainFor_of_name (by first | (simp [plainName, overriddenIn]; done) | decide +kernel)) ?_
  intro p e s m below meth c s₁ hx hby hml hown hnm hlk hrt hZ X0 e0
  refine own_enter (ef_rm_isZero m gd) ?_
  have N0 := Fr.nil n0
  refine own_aloadN X0 hx hby od_jdk_2316_method_21_0 (pc' := 1) rfl rfl rfl ?_
  refine own_getF X0 hx hby hZ hown (host := "") (Or.inl (ow_129 hw)) Via.refl e0 F_s od_jdk_2316_method_21_1 (pc' := 4) rfl ?_
  intro T1 X1 e1
  refine own_aloadN X1 hx hby od_jdk_2316_method_21_4 (pc' := 5) rfl rfl rfl ?_
  refine own_getF X1 hx hby hZ hown (host := "") (Or.inl (ow_131 hw)) Via.refl e1 F_n od_jdk_2316_method_21_5 (pc' := 8) rfl ?_
  intro T2 X2 e2
  refine own_i2l X2 hx hby od_jdk_2316_method_21_8 (pc' := 9) rfl ?_
  refine own_lor X2 hx hby od_jdk_2316_method_21_9 (pc' := 10) rfl ?_
  refine own_lconst X2 hx hby od_jdk_2316_method_21_10 (pc' := 11) rfl (z := 0) rfl ?_
  refine own_lcmp X2 hx hby od_jdk_2316_method_21_11 (pc' := 12) rfl ?_
  refine own_ifN X2 hx hby od_jdk_2316_method_21_12 (pc' := 15) rfl (teq (by decide)).2 ?_
  refine own_iconst X2 hx hby od_jdk_2316_method_21_15 (pc' := 16) rfl (z := 1) rfl ?_
  refine own_goto X2 hx hby od_jdk_2316_method_21_16 (by decide) (pc' := 20) (by decide) ?_
  exact own_retN X2 hx hby hlk hrt (by simp) od_jdk_2316_method_21_20 (z' := (1 : Int32)) rfl (by first | exact ⟨rfl, N0, rfl⟩ | (rw [e2]; exact ⟨rfl, N0, rfl⟩)) (by decide) (by decide)
theorem ef_rm_make (m : MethodId) (x0 : Int32) (x1 : Int32) (x2 : Int32) (x3 : Int32) (x4 : Int32) (x5 : Int32) : entryFrame m #[(.int x0), (.int x1), (.int x2), (.int x3), (.int x4), (.int x5)] 7 = mkF m 0 #[.val (.int x0), .val (.int x1), .val (.int x2), .val (.int x3), .val (.int x4), .val (.int x5), .unset] [] := by first | (simp [entryFrame, mkF, argsToLocals, Value.category]; done) | rfl
set_option maxRecDepth 65536 in
set_option maxHeartbeats 40000000 in
theorem rm_make (l : Launch) (Z : State) (a0 : Array Value) (hw : ∀ d ∈ tables_1, d.before a0 Z = true) (q c0 c1 c2 c3 c4 : Int32) (G1 : Int32) (h0 : Heap) (n0 : Nat) (Z0 : n0 ≤ h0.size) (S_cs : Sta Z h0 "java/lang/String" "COMPACT_STRINGS" "Z" (.int G1)) (P5 : ¬ (G1 = (0 : Int32))) (hq : q = 0 ∨ q = 1 ∨ q = 2 ∨ q = 3 ∨ q = 4 ∨ q = 5) (b0 : ¬ c0 < 0 ∧ ¬ (255 : Int32) < c0) (b1 : ¬ c1 < 0 ∧ ¬ (255 : Int32) < c1) (b2 : ¬ c2 < 0 ∧ ¬ (255 : Int32) < c2) (b3 : ¬ c3 < 0 ∧ ¬ (255 : Int32) < c3) (b4 : ¬ c4 < 0 ∧ ¬ (255 : Int32) < c4) :
    own_MetW l Z own_EL (⟨"com/example/structured_data_crawler/structureddatacrawler/crawl/RobotsRulesAllowAllPinLaw", "make", "(ICCCCC)Ljava/lang/String;"⟩ : MethodName) method_3_code 7 (some (.object "java/lang/String")) ({ frames := 4, cells := 6, slots := 14, locals := 66 } : Room) #[(.int q), (.int c0), (.int c1), (.int c2), (.int c3), (.int c4)] h0 (fun v h L => ∃ (r : Addr) (cs : List Int32), v = some (.ref r) ∧ Ext h0 h ∧ Fr n0 L ∧ own_Nm Z h r cs) := by
  refine own_bodyW (plainFor_of_name (by first | (simp [plainName, overriddenIn]; done) | decide +kernel)) ?_
  intro p e s m below meth c s₁ vm0 hx hby hml hown hnm hlk hrt hZ hZ0 SN CH X0 e0
  refine own_enter (ef_rm_make m q c0 c1 c2 c3 c4) ?_
  have N0 := Fr.nil n0
  rcases hq with rfl | rfl | rfl | rfl | rfl | rfl
  · refine own_iloadN X0 hx hby od_method_3_0 (pc' := 1) rfl rfl ?_
    refine own_ifN X0 hx hby od_method_3_1 (pc' := 4) rfl (teq rfl).2 ?_
    refine own_newO X0 hx hby hZ hown (ow_6 hw) (ow_7 hw) (ow_8 hw) e0 od_method_3_4 (pc' := 7) rfl (by decide) (by decide) ?_
    intro T1 h1 b1 g1 X1 e1 E1 AX1 D1
    have le2 : h0.size ≤ b1 := Nat.le_of_eq g1.symm
    have n0_b1 : n0 ≤ b1 := Nat.le_trans Z0 (Nat.le_of_eq g1.symm)
    have F_coder_b1 : Fld Z h1 b1 "java/lang/String" "coder" "B" (.int (0 : Int32)) := D1 (Or.inr (ow_32 hw)) (ty := .byte) (by decide)
    have F_value_b1 : Fld Z h1 b1 "java/lang/String" "value" "[B" .null := D1 (Or.inr (ow_34 hw)) (ty := (.array .byte)) (by decide)
    refine own_dup X1 hx hby od_method_3_7 (pc' := 8) rfl rfl ?_
    refine own_iconst X1 hx hby od_method_3_8 (pc' := 9) rfl (z := 0) rfl ?_
    refine own_newP (aty := .char) X1 hx hby hZ (ow_5 hw) e1 od_method_3_9 (pc' := 11) rfl (by decide) (cap := 0) (by decide) (by decide) (by decide) (by decide) ?_
    intro T3 h3 b3 kA3 g3 X3 e3 E3 V_b3
    have le4 : h0.size ≤ b3 := Nat.le_trans E1.1 (Nat.le_of_eq g3.symm)
    have le5 : h1.size ≤ b3 := Nat.le_of_eq g3.symm
    have n0_b3 : n0 ≤ b3 := Nat.le_trans (Nat.le_trans Z0 E1.1) (Nat.le_of_eq g3.symm)
    have Ea6 := own_xt E1 E3
    replace V_b3 : Arv Z h3 b3 kA3 .char (0 : Int32) [] (.int (0 : Int32)) := V_b3
    refine own_specMW X3 hx hby hml hZ hown (SN.ext Ea6) (CH.ext Ea6) rfl (ow_9 hw) (ow_10 hw) (ow_8 hw) (ow_11 hw) (by decide) (cc := 4) (ss := 8) (own_ew hw) (rm_str0 l Z a0 hw b1 b3 kA3 h3 n0 (Nat.le_trans Z0 Ea6.1) n0_b1 (AX1.ext E3) (F_value_b1.ext E3) (F_coder_b1.ext E3) V_b3) 1 rfl rfl (by decide) (by decide) rfl (argsL := [(.ref b3)]) (rest := [(.ref b1)]) opd_11 rfl rfl (Nat.le_refl _) od_method_3_11 (pc' := 14) rfl rfl e3 (by decide) (by decide) ?_
    rintro v7 T7 vm7 h7 L7 X7 e7 hZ hown SN7 CH7 gr7 ⟨rfl, Nq7, Kq7, S_b1⟩
    have N7 := N0.app Nq7
    have Ea8 := own_xk Ea6 Kq7 (allS le2 all0)
    replace S_cs := S_cs.ext Ea8
    have A_b1 := S_b1.exa
    exact own_retAW X7 hx hby hZ (own_ew hw) e7 SN7 CH7 hlk hrt rfl rfl od_method_3_14 ⟨b1, [], rfl, Ea8, N7, S_b1, Nat.le_of_ble_eq_true rfl⟩ (by decide) (by decide)
  · refine own_iloadN X0 hx hby od_method_3_0 (pc' := 1) rfl rfl ?_
    refine own_ifY X0 hx hby od_method_3_1 (by decide) (pc' := 15) (by decide) (feq (by decide)).2 ?_
    refine own_iloadN X0 hx hby od_method_3_15 (pc' := 16) rfl rfl ?_
    refine own_iconst X0 hx hby od_method_3_16 (pc' := 17) rfl (z := 1) rfl ?_
    refine own_icmpN X0 hx hby od_method_3_17 (pc' := 20) rfl (teq (by decide)).2 ?_
    refine own_iloadN X0 hx hby od_method_3_20 (pc' := 21) rfl rfl ?_
    refine own_callM X0 hx hby hml hZ hown (ow_133 hw) (ow_134 hw) (ow_8 hw) (ow_135 hw) (by decide) (cc := 2) (ss := 5) (rm_valueOf l Z a0 hw c0 G1 h0 n0 Z0 S_cs P5 b0.1 b0.2) 0 rfl rfl (by decide) (by decide) rfl (argsL := [(.int c0)]) (rest := []) opd_12 rfl rfl (Nat.le_refl _) od_method_3_21 (pc' := 24) rfl rfl e0 (by decide) (by decide) ?_
    rintro v9 T9 h9 L9 X9 e9 ⟨b, rfl, _, Eq9, Nq9, S_b⟩
    have N9 := N0.app Nq9
    replace SN := SN.ext Eq9
    replace CH := CH.ext Eq9
    replace S_cs := S_cs.ext Eq9
    exact own_retAW X9 hx hby hZ (own_ew hw) e9 SN CH hlk hrt rfl rfl od_method_3_24 ⟨b, [c0], rfl, Eq9, N9, S_b, Nat.le_of_ble_eq_true rfl⟩ (by decide) (by decide)
  · refine own_iloadN X0 hx hby od_method_3_0 (pc' := 1) rfl rfl ?_
    refine own_ifY X0 hx hby od_method_3_1 (by decide) (pc' := 15) (by decide) (feq (by decide)).2 ?_
    refine own_iloadN X0 hx hby od_method_3_15 (pc' := 16) rfl rfl ?_
    refine own_iconst X0 hx hby od_method_3_16 (pc' := 17) rfl (z := 1) rfl ?_
    refine own_icmpY X0 hx hby od_method_3_17 (by decide) (pc' := 25) (by decide) (feq (by decide)).2 ?_
    refine own_iloadN X0 hx hby od_method_3_25 (pc' := 26) rfl rfl ?_
    refine own_iconst X0 hx hby od_method_3_26 (pc' := 27) rfl (z := 2) rfl ?_
    refine own_icmpN X0 hx hby od_method_3_27 (pc' := 30) rfl (teq (by decide)).2 ?_
    refine own_iconst X0 hx hby od_method_3_30 (pc' := 31) rfl (z := 2) rfl ?_
    refine own_newP (aty := .char) X0 hx hby hZ (ow_5 hw) e0 od_method_3_31 (pc' := 33) rfl (by decide) (cap := 2) (by decide) (by decide) (by decide) (by decide) ?_
    intro T10 h10 b10 kA10 g10 X10 e10 E10 V_b10
    have le11 : h0.size ≤ b10 := Nat.le_of_eq g10.symm
    have n0_b10 : n0 ≤ b10 := Nat.le_trans Z0 (Nat.le_of_eq g10.symm)
    replace V_b10 : Arv Z h10 b10 kA10 .char (2 : Int32) [(.int (0 : Int32)), (.int (0 : Int32))] (.int (0 : Int32)) := V_b10.pad (pad_rep [] (.int (0 : Int32)) 2)
    refine own_astore X10 hx hby od_method_3_33 (pc' := 35) rfl rfl (Ls' := #[.val (.int (2 : Int32)), .val (.int c0), .val (.int c1), .val (.int c2), .val (.int c3), .val (.int c4), .val (.ref b10)]) rfl ?_
    refine own_aload X10 hx hby od_method_3_35 (pc' := 37) rfl rfl rfl ?_
    refine own_iconst X10 hx hby od_method_3_37 (pc' := 38) rfl (z := 0) rfl ?_
    refine own_iloadN X10 hx hby od_method_3_38 (pc' := 39) rfl rfl ?_
    refine own_stC X10 hx hby hZ e10 V_b10 ⟨by decide, by decide⟩ 0 rfl (Nat.le_of_ble_eq_true rfl) od_method_3_39 (pc' := 40) rfl ?_
    intro T12 h12 X12 e12 W12 V12_b10
    replace V12_b10 : Arv Z h12 b10 kA10 .char (2 : Int32) [(.int (nar .char c0)), (.int (0 : Int32))] (.int (0 : Int32)) := V12_b10
    have Ea13 := own_xw E10 W12 le11
    have N12 := own_fr1 (sl := ((0 : Int32)).toNatClampNeg) N0 n0_b10
    rw [(own_char b0.1 b0.2).1] at V12_b10
    refine own_aload X12 hx hby od_method_3_40 (pc' := 42) rfl rfl rfl ?_
    refine own_iconst X12 hx hby od_method_3_42 (pc' := 43) rfl (z := 1) rfl ?_
    refine own_iloadN X12 hx hby od_method_3_43 (pc' := 44) rfl rfl ?_
    refine own_stC X12 hx hby hZ e12 V12_b10 ⟨by decide, by decide⟩ 1 rfl (Nat.le_of_ble_eq_true rfl) od_method_3_44 (pc' := 45) rfl ?_
    intro T14 h14 X14 e14 W14 V14_b10
    replace V14_b10 : Arv Z h14 b10 kA10 .char (2 : Int32) [(.int c0), (.int (nar .char c1))] (.int (0 : Int32)) := V14_b10
    have Ea15 := own_xw Ea13 W14 le11
    have N14 := own_fr1 (sl := ((1 : Int32)).toNatClampNeg) N12 n0_b10
    rw [(own_char b1.1 b1.2).1] at V14_b10
    refine own_newO X14 hx hby hZ hown (ow_6 hw) (ow_7 hw) (ow_8 hw) e14 od_method_3_45 (pc' := 48) rfl (by decide) (by decide) ?_
    intro T16 h16 b16 g16 X16 e16 E16 AX16 D16
    have le17 : h0.size ≤ b16 := Nat.le_trans Ea15.1 (Nat.le_of_eq g16.symm)
    have le18 : h14.size ≤ b16 := Nat.le_of_eq g16.symm
    have n0_b16 : n0 ≤ b16 := Nat.le_trans (Nat.le_trans Z0 Ea15.1) (Nat.le_of_eq g16.symm)
    have Ea19 := own_xt Ea15 E16
    have F_coder_b16 : Fld Z h16 b16 "java/lang/String" "coder" "B" (.int (0 : Int32)) := D16 (Or.inr (ow_32 hw)) (ty := .byte) (by decide)
    have F_value_b16 : Fld Z h16 b16 "java/lang/String" "value" "[B" .null := D16 (Or.inr (ow_34 hw)) (ty := (.array .byte)) (by decide)
    refine own_dup X16 hx hby od_method_3_48 (pc' := 49) rfl rfl ?_
    refine own_aload X16 hx hby od_method_3_49 (pc' := 51) rfl rfl rfl ?_
    have hp2 : ∀ c ∈ ([c0, c1] : List Int32), ¬ c < 0 ∧ ¬ (255 : Int32) < c := by intro c hc; simp only [List.mem_cons, List.not_mem_nil, or_false] at hc; rcases hc with rfl | rfl <;> assumption
    refine own_spec X16 hx hby hml hZ hown rfl (ow_9 hw) (ow_10 hw) (ow_11 hw) (by decide) (cc := 1) (ss := 2) (StrChars.Road.backV (W := 1) hZ (own_hws hw) (kI := 4) (ow_7 hw) (cs := [c0, c1]) (bs := ([c0, c1] : List Int32).map (fun c => c.toInt8.toInt32)) (n := 2) n0_b16 (Nat.le_trans Z0 Ea19.1) AX16 F_value_b16 F_coder_b16 (V14_b10.ext E16) (S_cs.ext Ea19) P5 rfl rfl (by decide) (by decide) hp2 rfl (by decide) (by decide)) rfl (argsL := [(.ref b10)]) (rest := [(.ref b16)]) opd_11 rfl rfl (Nat.le_refl _) od_method_3_51 (pc' := 54) rfl rfl e16 (by decide) (by decide) ?_
    rintro v20 T20 h20 L20 X20 e20 ⟨rfl, Nq20, Kq20, Aq20, Cq20, t20, kb20, _, _, _, Vq20, Bq20⟩
    have N20 := N14.app Nq20
    have Ea21 := own_xk Ea19 Kq20 (allS le17 all0)
    have Ea22 := own_xk E16 Kq20 (allS le18 all0)
    replace SN := SN.ext Ea21
    replace CH := CH.ext Ea21
    replace S_cs := S_cs.ext Ea21
    replace V14_b10 := V14_b10.ext Ea22
    have S_b16 : own_Str Z h20 b16 [c0, c1] := ⟨Aq20, Cq20, hp2, t20, kb20, Vq20, Bq20⟩
    have A_b16 := S_b16.exa
    exact own_retAW X20 hx hby hZ (own_ew hw) e20 SN CH hlk hrt rfl rfl od_method_3_54 ⟨b16, [c0, c1], rfl, Ea21, N20, S_b16, Nat.le_of_ble_eq_true rfl⟩ (by decide) (by decide)
  · refine own_iloadN X0 hx hby od_method_3_0 (pc' := 1) rfl rfl ?_
    refine own_ifY X0 hx hby od_method_3_1 (by decide) (pc' := 15) (by decide) (feq (by decide)).2 ?_
    refine own_iloadN X0 hx hby od_method_3_15 (pc' := 16) rfl rfl ?_
    refine own_iconst X0 hx hby od_method_3_16 (pc' := 17) rfl (z := 1) rfl ?_
    refine own_icmpY X0 hx hby od_method_3_17 (by decide) (pc' := 25) (by decide) (feq (by decide)).2 ?_
    refine own_iloadN X0 hx hby od_method_3_25 (pc' := 26) rfl rfl ?_
    refine own_iconst X0 hx hby od_method_3_26 (pc' := 27) rfl (z := 2) rfl ?_
    refine own_icmpY X0 hx hby od_method_3_27 (by decide) (pc' := 55) (by decide) (feq (by decide)).2 ?_
    refine own_iloadN X0 hx hby od_method_3_55 (pc' := 56) rfl rfl ?_
    refine own_iconst X0 hx hby od_method_3_56 (pc' := 57) rfl (z := 3) rfl ?_
    refine own_icmpN X0 hx hby od_method_3_57 (pc' := 60) rfl (teq (by decide)).2 ?_
    refine own_iconst X0 hx hby od_method_3_60 (pc' := 61) rfl (z := 3) rfl ?_
    refine own_newP (aty := .char) X0 hx hby hZ (ow_5 hw) e0 od_method_3_61 (pc' := 63) rfl (by decide) (cap := 3) (by decide) (by decide) (by decide) (by decide) ?_
    intro T23 h23 b23 kA23 g23 X23 e23 E23 V_b23
    have le24 : h0.size ≤ b23 := Nat.le_of_eq g23.symm
    have n0_b23 : n0 ≤ b23 := Nat.le_trans Z0 (Nat.le_of_eq g23.symm)
    replace V_b23 : Arv Z h23 b23 kA23 .char (3 : Int32) [(.int (0 : Int32)), (.int (0 : Int32)), (.int (0 : Int32))] (.int (0 : Int32)) := V_b23.pad (pad_rep [] (.int (0 : Int32)) 3)
    refine own_astore X23 hx hby od_method_3_63 (pc' := 65) rfl rfl (Ls' := #[.val (.int (3 : Int32)), .val (.int c0), .val (.int c1), .val (.int c2), .val (.int c3), .val (.int c4), .val (.ref b23)]) rfl ?_
    refine own_aload X23 hx hby od_method_3_65 (pc' := 67) rfl rfl rfl ?_
    refine own_iconst X23 hx hby od_method_3_67 (pc' := 68) rfl (z := 0) rfl ?_
    refine own_iloadN X23 hx hby od_method_3_68 (pc' := 69) rfl rfl ?_
    refine own_stC X23 hx hby hZ e23 V_b23 ⟨by decide, by decide⟩ 0 rfl (Nat.le_of_ble_eq_true rfl) od_method_3_69 (pc' := 70) rfl ?_
    intro T25 h25 X25 e25 W25 V25_b23
    replace V25_b23 : Arv Z h25 b23 kA23 .char (3 : Int32) [(.int (nar .char c0)), (.int (0 : Int32)), (.int (0 : Int32))] (.int (0 : Int32)) := V25_b23
    have Ea26 := own_xw E23 W25 le24
    have N25 := own_fr1 (sl := ((0 : Int32)).toNatClampNeg) N0 n0_b23
    rw [(own_char b0.1 b0.2).1] at V25_b23
    refine own_aload X25 hx hby od_method_3_70 (pc' := 72) rfl rfl rfl ?_
    refine own_iconst X25 hx hby od_method_3_72 (pc' := 73) rfl (z := 1) rfl ?_
    refine own_iloadN X25 hx hby od_method_3_73 (pc' := 74) rfl rfl ?_
    refine own_stC X25 hx hby hZ e25 V25_b23 ⟨by decide, by decide⟩ 1 rfl (Nat.le_of_ble_eq_true rfl) od_method_3_74 (pc' := 75) rfl ?_
    intro T27 h27 X27 e27 W27 V27_b23
    replace V27_b23 : Arv Z h27 b23 kA23 .char (3 : Int32) [(.int c0), (.int (nar .char c1)), (.int (0 : Int32))] (.int (0 : Int32)) := V27_b23
    have Ea28 := own_xw Ea26 W27 le24
    have N27 := own_fr1 (sl := ((1 : Int32)).toNatClampNeg) N25 n0_b23
    rw [(own_char b1.1 b1.2).1] at V27_b23
    refine own_aload X27 hx hby od_method_3_75 (pc' := 77) rfl rfl rfl ?_
    refine own_iconst X27 hx hby od_method_3_77 (pc' := 78) rfl (z := 2) rfl ?_
    refine own_iloadN X27 hx hby od_method_3_78 (pc' := 79) rfl rfl ?_
    refine own_stC X27 hx hby hZ e27 V27_b23 ⟨by decide, by decide⟩ 2 rfl (Nat.le_of_ble_eq_true rfl) od_method_3_79 (pc' := 80) rfl ?_
    intro T29 h29 X29 e29 W29 V29_b23
    replace V29_b23 : Arv Z h29 b23 kA23 .char (3 : Int32) [(.int c0), (.int c1), (.int (nar .char c2))] (.int (0 : Int32)) := V29_b23
    have Ea30 := own_xw Ea28 W29 le24
    have N29 := own_fr1 (sl := ((2 : Int32)).toNatClampNeg) N27 n0_b23
    rw [(own_char b2.1 b2.2).1] at V29_b23
    refine own_newO X29 hx hby hZ hown (ow_6 hw) (ow_7 hw) (ow_8 hw) e29 od_method_3_80 (pc' := 83) rfl (by decide) (by decide) ?_
    intro T31 h31 b31 g31 X31 e31 E31 AX31 D31
    have le32 : h0.size ≤ b31 := Nat.le_trans Ea30.1 (Nat.le_of_eq g31.symm)
    have le33 : h29.size ≤ b31 := Nat.le_of_eq g31.symm
    have n0_b31 : n0 ≤ b31 := Nat.le_trans (Nat.le_trans Z0 Ea30.1) (Nat.le_of_eq g31.symm)
    have Ea34 := own_xt Ea30 E31
    have F_coder_b31 : Fld Z h31 b31 "java/lang/String" "coder" "B" (.int (0 : Int32)) := D31 (Or.inr (ow_32 hw)) (ty := .byte) (by decide)
    have F_value_b31 : Fld Z h31 b31 "java/lang/String" "value" "[B" .null := D31 (Or.inr (ow_34 hw)) (ty := (.array .byte)) (by decide)
    refine own_dup X31 hx hby od_method_3_83 (pc' := 84) rfl rfl ?_
    refine own_aload X31 hx hby od_method_3_84 (pc' := 86) rfl rfl rfl ?_
    have hp2 : ∀ c ∈ ([c0, c1, c2] : List Int32), ¬ c < 0 ∧ ¬ (255 : Int32) < c := by intro c hc; simp only [List.mem_cons, List.not_mem_nil, or_false] at hc; rcases hc with rfl | rfl | rfl <;> assumption
    refine own_spec X31 hx hby hml hZ hown rfl (ow_9 hw) (ow_10 hw) (ow_11 hw) (by decide) (cc := 1) (ss := 3) (StrChars.Road.backV (W := 1) hZ (own_hws hw) (kI := 4) (ow_7 hw) (cs := [c0, c1, c2]) (bs := ([c0, c1, c2] : List Int32).map (fun c => c.toInt8.toInt32)) (n := 3) n0_b31 (Nat.le_trans Z0 Ea34.1) AX31 F_value_b31 F_coder_b31 (V29_b23.ext E31) (S_cs.ext Ea34) P5 rfl rfl (by decide) (by decide) hp2 rfl (by decide) (by decide)) rfl (argsL := [(.ref b23)]) (rest := [(.ref b31)]) opd_11 rfl rfl (Nat.le_refl _) od_method_3_86 (pc' := 89) rfl rfl e31 (by decide) (by decide) ?_
    rintro v35 T35 h35 L35 X35 e35 ⟨rfl, Nq35, Kq35, Aq35, Cq35, t35, kb35, _, _, _, Vq35, Bq35⟩
    have N35 := N29.app Nq35
    have Ea36 := own_xk Ea34 Kq35 (allS le32 all0)
    have Ea37 := own_xk E31 Kq35 (allS le33 all0)
    replace SN := SN.ext Ea36
    replace CH := CH.ext Ea36
    replace S_cs := S_cs.ext Ea36
    replace V29_b23 := V29_b23.ext Ea37
    have S_b31 : own_Str Z h35 b31 [c0, c1, c2] := ⟨Aq35, Cq35, hp2, t35, kb35, Vq35, Bq35⟩
    have A_b31 := S_b31.exa
    exact own_retAW X35 hx hby hZ (own_ew hw) e35 SN CH hlk hrt rfl rfl od_method_3_89 ⟨b31, [c0, c1, c2], rfl, Ea36, N35, S_b31, Nat.le_of_ble_eq_true rfl⟩ (by decide) (by decide)
  · refine own_iloadN X0 hx hby od_method_3_0 (pc' := 1) rfl rfl ?_
    refine own_ifY X0 hx hby od_method_3_1 (by decide) (pc' := 15) (by decide) (feq (by decide)).2 ?_
    refine own_iloadN X0 hx hby od_method_3_15 (pc' := 16) rfl rfl ?_
    refine own_iconst X0 hx hby od_method_3_16 (pc' := 17) rfl (z := 1) rfl ?_
    refine own_icmpY X0 hx hby od_method_3_17 (by decide) (pc' := 25) (by decide) (feq (by decide)).2 ?_
    refine own_iloadN X0 hx hby od_method_3_25 (pc' := 26) rfl rfl ?_
    refine own_iconst X0 hx hby od_method_3_26 (pc' := 27) rfl (z := 2) rfl ?_
    refine own_icmpY X0 hx hby od_method_3_27 (by decide) (pc' := 55) (by decide) (feq (by decide)).2 ?_
    refine own_iloadN X0 hx hby od_method_3_55 (pc' := 56) rfl rfl ?_
    refine own_iconst X0 hx hby od_method_3_56 (pc' := 57) rfl (z := 3) rfl ?_
    refine own_icmpY X0 hx hby od_method_3_57 (by decide) (pc' := 90) (by decide) (feq (by decide)).2 ?_
    refine own_iloadN X0 hx hby od_method_3_90 (pc' := 91) rfl rfl ?_
    refine own_iconst X0 hx hby od_method_3_91 (pc' := 92) rfl (z := 4) rfl ?_
    refine own_icmpN X0 hx hby od_method_3_92 (pc' := 95) rfl (teq (by decide)).2 ?_
    refine own_iconst X0 hx hby od_method_3_95 (pc' := 96) rfl (z := 4) rfl ?_
    refine own_newP (aty := .char) X0 hx hby hZ (ow_5 hw) e0 od_method_3_96 (pc' := 98) rfl (by decide) (cap := 4) (by decide) (by decide) (by decide) (by decide) ?_
    intro T38 h38 b38 kA38 g38 X38 e38 E38 V_b38
    have le39 : h0.size ≤ b38 := Nat.le_of_eq g38.symm
    have n0_b38 : n0 ≤ b38 := Nat.le_trans Z0 (Nat.le_of_eq g38.symm)
    replace V_b38 : Arv Z h38 b38 kA38 .char (4 : Int32) [(.int (0 : Int32)), (.int (0 : Int32)), (.int (0 : Int32)), (.int (0 : Int32))] (.int (0 : Int32)) := V_b38.pad (pad_rep [] (.int (0 : Int32)) 4)
    refine own_astore X38 hx hby od_method_3_98 (pc' := 100) rfl rfl (Ls' := #[.val (.int (4 : Int32)), .val (.int c0), .val (.int c1), .val (.int c2), .val (.int c3), .val (.int c4), .val (.ref b38)]) rfl ?_
    refine own_aload X38 hx hby od_method_3_100 (pc' := 102) rfl rfl rfl ?_
    refine own_iconst X38 hx hby od_method_3_102 (pc' := 103) rfl (z := 0) rfl ?_
    refine own_iloadN X38 hx hby od_method_3_103 (pc' := 104) rfl rfl ?_
    refine own_stC X38 hx hby hZ e38 V_b38 ⟨by decide, by decide⟩ 0 rfl (Nat.le_of_ble_eq_true rfl) od_method_3_104 (pc' := 105) rfl ?_
    intro T40 h40 X40 e40 W40 V40_b38
    replace V40_b38 : Arv Z h40 b38 kA38 .char (4 : Int32) [(.int (nar .char c0)), (.int (0 : Int32)), (.int (0 : Int32)), (.int (0 : Int32))] (.int (0 : Int32)) := V40_b38
    have Ea41 := own_xw E38 W40 le39
    have N40 := own_fr1 (sl := ((0 : Int32)).toNatClampNeg) N0 n0_b38
    rw [(own_char b0.1 b0.2).1] at V40_b38
    refine own_aload X40 hx hby od_method_3_105 (pc' := 107) rfl rfl rfl ?_
    refine own_iconst X40 hx hby od_method_3_107 (pc' := 108) rfl (z := 1) rfl ?_
    refine own_iloadN X40 hx hby od_method_3_108 (pc' := 109) rfl rfl ?_
    refine own_stC X40 hx hby hZ e40 V40_b38 ⟨by decide, by decide⟩ 1 rfl (Nat.le_of_ble_eq_true rfl) od_method_3_109 (pc' := 110) rfl ?_
    intro T42 h42 X42 e42 W42 V42_b38
    replace V42_b38 : Arv Z h42 b38 kA38 .char (4 : Int32) [(.int c0), (.int (nar .char c1)), (.int (0 : Int32)), (.int (0 : Int32))] (.int (0 : Int32)) := V42_b38
    have Ea43 := own_xw Ea41 W42 le39
    have N42 := own_fr1 (sl := ((1 : Int32)).toNatClampNeg) N40 n0_b38
    rw [(own_char b1.1 b1.2).1] at V42_b38
    refine own_aload X42 hx hby od_method_3_110 (pc' := 112) rfl rfl rfl ?_
    refine own_iconst X42 hx hby od_method_3_112 (pc' := 113) rfl (z := 2) rfl ?_
    refine own_iloadN X42 hx hby od_method_3_113 (pc' := 114) rfl rfl ?_
    refine own_stC X42 hx hby hZ e42 V42_b38 ⟨by decide, by decide⟩ 2 rfl (Nat.le_of_ble_eq_true rfl) od_method_3_114 (pc' := 115) rfl ?_
    intro T44 h44 X44 e44 W44 V44_b38
    replace V44_b38 : Arv Z h44 b38 kA38 .char (4 : Int32) [(.int c0), (.int c1), (.int (nar .char c2)), (.int (0 : Int32))] (.int (0 : Int32)) := V44_b38
    have Ea45 := own_xw Ea43 W44 le39
    have N44 := own_fr1 (sl := ((2 : Int32)).toNatClampNeg) N42 n0_b38
    rw [(own_char b2.1 b2.2).1] at V44_b38
    refine own_aload X44 hx hby od_method_3_115 (pc' := 117) rfl rfl rfl ?_
    refine own_iconst X44 hx hby od_method_3_117 (pc' := 118) rfl (z := 3) rfl ?_
    refine own_iload X44 hx hby od_method_3_118 (pc' := 120) rfl rfl ?_
    refine own_stC X44 hx hby hZ e44 V44_b38 ⟨by decide, by decide⟩ 3 rfl (Nat.le_of_ble_eq_true rfl) od_method_3_120 (pc' := 121) rfl ?_
    intro T46 h46 X46 e46 W46 V46_b38
    replace V46_b38 : Arv Z h46 b38 kA38 .char (4 : Int32) [(.int c0), (.int c1), (.int c2), (.int (nar .char c3))] (.int (0 : Int32)) := V46_b38
    have Ea47 := own_xw Ea45 W46 le39
    have N46 := own_fr1 (sl := ((3 : Int32)).toNatClampNeg) N44 n0_b38
    rw [(own_char b3.1 b3.2).1] at V46_b38
    refine own_newO X46 hx hby hZ hown (ow_6 hw) (ow_7 hw) (ow_8 hw) e46 od_method_3_121 (pc' := 124) rfl (by decide) (by decide) ?_
    intro T48 h48 b48 g48 X48 e48 E48 AX48 D48
    have le49 : h0.size ≤ b48 := Nat.le_trans Ea47.1 (Nat.le_of_eq g48.symm)
    have le50 : h46.size ≤ b48 := Nat.le_of_eq g48.symm
    have n0_b48 : n0 ≤ b48 := Nat.le_trans (Nat.le_trans Z0 Ea47.1) (Nat.le_of_eq g48.symm)
    have Ea51 := own_xt Ea47 E48
    have F_coder_b48 : Fld Z h48 b48 "java/lang/String" "coder" "B" (.int (0 : Int32)) := D48 (Or.inr (ow_32 hw)) (ty := .byte) (by decide)
    have F_value_b48 : Fld Z h48 b48 "java/lang/String" "value" "[B" .null := D48 (Or.inr (ow_34 hw)) (ty := (.array .byte)) (by decide)
    refine own_dup X48 hx hby od_method_3_124 (pc' := 125) rfl rfl ?_
    refine own_aload X48 hx hby od_method_3_125 (pc' := 127) rfl rfl rfl ?_
    have hp2 : ∀ c ∈ ([c0, c1, c2, c3] : List Int32), ¬ c < 0 ∧ ¬ (255 : Int32) < c := by intro c hc; simp only [List.mem_cons, List.not_mem_nil, or_false] at hc; rcases hc with rfl | rfl | rfl | rfl <;> assumption
    refine own_spec X48 hx hby hml hZ hown rfl (ow_9 hw) (ow_10 hw) (ow_11 hw) (by decide) (cc := 1) (ss := 4) (StrChars.Road.backV (W := 1) hZ (own_hws hw) (kI := 4) (ow_7 hw) (cs := [c0, c1, c2, c3]) (bs := ([c0, c1, c2, c3] : List Int32).map (fun c => c.toInt8.toInt32)) (n := 4) n0_b48 (Nat.le_trans Z0 Ea51.1) AX48 F_value_b48 F_coder_b48 (V46_b38.ext E48) (S_cs.ext Ea51) P5 rfl rfl (by decide) (by decide) hp2 rfl (by decide) (by decide)) rfl (argsL := [(.ref b38)]) (rest := [(.ref b48)]) opd_11 rfl rfl (Nat.le_refl _) od_method_3_127 (pc' := 130) rfl rfl e48 (by decide) (by decide) ?_
    rintro v52 T52 h52 L52 X52 e52 ⟨rfl, Nq52, Kq52, Aq52, Cq52, t52, kb52, _, _, _, Vq52, Bq52⟩
    have N52 := N46.app Nq52
    have Ea53 := own_xk Ea51 Kq52 (allS le49 all0)
    have Ea54 := own_xk E48 Kq52 (allS le50 all0)
    replace SN := SN.ext Ea53
    replace CH := CH.ext Ea53
    replace S_cs := S_cs.ext Ea53
    replace V46_b38 := V46_b38.ext Ea54
    have S_b48 : own_Str Z h52 b48 [c0, c1, c2, c3] := ⟨Aq52, Cq52, hp2, t52, kb52, Vq52, Bq52⟩
    have A_b48 := S_b48.exa
    exact own_retAW X52 hx hby hZ (own_ew hw) e52 SN CH hlk hrt rfl rfl od_method_3_130 ⟨b48, [c0, c1, c2, c3], rfl, Ea53, N52, S_b48, Nat.le_of_ble_eq_true rfl⟩ (by decide) (by decide)
  · refine own_iloadN X0 hx hby od_method_3_0 (pc' := 1) rfl rfl ?_
    refine own_ifY X0 hx hby od_method_3_1 (by decide) (pc' := 15) (by decide) (feq (by decide)).2 ?_
    refine own_iloadN X0 hx hby od_method_3_15 (pc' := 16) rfl rfl ?_
    refine own_iconst X0 hx hby od_method_3_16 (pc' := 17) rfl (z := 1) rfl ?_
    refine own_icmpY X0 hx hby od_method_3_17 (by decide) (pc' := 25) (by decide) (feq (by decide)).2 ?_
    refine own_iloadN X0 hx hby od_method_3_25 (pc' := 26) rfl rfl ?_
    refine own_iconst X0 hx hby od_method_3_26 (pc' := 27) rfl (z := 2) rfl ?_
    refine own_icmpY X0 hx hby od_method_3_27 (by decide) (pc' := 55) (by decide) (feq (by decide)).2 ?_
    refine own_iloadN X0 hx hby od_method_3_55 (pc' := 56) rfl rfl ?_
    refine own_iconst X0 hx hby od_method_3_56 (pc' := 57) rfl (z := 3) rfl ?_
    refine own_icmpY X0 hx hby od_method_3_57 (by decide) (pc' := 90) (by decide) (feq (by decide)).2 ?_
    refine own_iloadN X0 hx hby od_method_3_90 (pc' := 91) rfl rfl ?_
    refine own_iconst X0 hx hby od_method_3_91 (pc' := 92) rfl (z := 4) rfl ?_
    refine own_icmpY X0 hx hby od_method_3_92 (by decide) (pc' := 131) (by decide) (feq (by decide)).2 ?_
    refine own_iconst X0 hx hby od_method_3_131 (pc' := 132) rfl (z := 5) rfl ?_
    refine own_newP (aty := .char) X0 hx hby hZ (ow_5 hw) e0 od_method_3_132 (pc' := 134) rfl (by decide) (cap := 5) (by decide) (by decide) (by decide) (by decide) ?_
    intro T55 h55 b55 kA55 g55 X55 e55 E55 V_b55
    have le56 : h0.size ≤ b55 := Nat.le_of_eq g55.symm
    have n0_b55 : n0 ≤ b55 := Nat.le_trans Z0 (Nat.le_of_eq g55.symm)
    replace V_b55 : Arv Z h55 b55 kA55 .char (5 : Int32) [(.int (0 : Int32)), (.int (0 : Int32)), (.int (0 : Int32)), (.int (0 : Int32)), (.int (0 : Int32))] (.int (0 : Int32)) := V_b55.pad (pad_rep [] (.int (0 : Int32)) 5)
    refine own_astore X55 hx hby od_method_3_134 (pc' := 136) rfl rfl (Ls' := #[.val (.int (5 : Int32)), .val (.int c0), .val (.int c1), .val (.int c2), .val (.int c3), .val (.int c4), .val (.ref b55)]) rfl ?_
    refine own_aload X55 hx hby od_method_3_136 (pc' := 138) rfl rfl rfl ?_
    refine own_iconst X55 hx hby od_method_3_138 (pc' := 139) rfl (z := 0) rfl ?_
    refine own_iloadN X55 hx hby od_method_3_139 (pc' := 140) rfl rfl ?_
    refine own_stC X55 hx hby hZ e55 V_b55 ⟨by decide, by decide⟩ 0 rfl (Nat.le_of_ble_eq_true rfl) od_method_3_140 (pc' := 141) rfl ?_
    intro T57 h57 X57 e57 W57 V57_b55
    replace V57_b55 : Arv Z h57 b55 kA55 .char (5 : Int32) [(.int (nar .char c0)), (.int (0 : Int32)), (.int (0 : Int32)), (.int (0 : Int32)), (.int (0 : Int32))] (.int (0 : Int32)) := V57_b55
    have Ea58 := own_xw E55 W57 le56
    have N57 := own_fr1 (sl := ((0 : Int32)).toNatClampNeg) N0 n0_b55
    rw [(own_char b0.1 b0.2).1] at V57_b55
    refine own_aload X57 hx hby od_method_3_141 (pc' := 143) rfl rfl rfl ?_
    refine own_iconst X57 hx hby od_method_3_143 (pc' := 144) rfl (z := 1) rfl ?_
    refine own_iloadN X57 hx hby od_method_3_144 (pc' := 145) rfl rfl ?_
    refine own_stC X57 hx hby hZ e57 V57_b55 ⟨by decide, by decide⟩ 1 rfl (Nat.le_of_ble_eq_true rfl) od_method_3_145 (pc' := 146) rfl ?_
    intro T59 h59 X59 e59 W59 V59_b55
    replace V59_b55 : Arv Z h59 b55 kA55 .char (5 : Int32) [(.int c0), (.int (nar .char c1)), (.int (0 : Int32)), (.int (0 : Int32)), (.int (0 : Int32))] (.int (0 : Int32)) := V59_b55
    have Ea60 := own_xw Ea58 W59 le56
    have N59 := own_fr1 (sl := ((1 : Int32)).toNatClampNeg) N57 n0_b55
    rw [(own_char b1.1 b1.2).1] at V59_b55
    refine own_aload X59 hx hby od_method_3_146 (pc' := 148) rfl rfl rfl ?_
    refine own_iconst X59 hx hby od_method_3_148 (pc' := 149) rfl (z := 2) rfl ?_
    refine own_iloadN X59 hx hby od_method_3_149 (pc' := 150) rfl rfl ?_
    refine own_stC X59 hx hby hZ e59 V59_b55 ⟨by decide, by decide⟩ 2 rfl (Nat.le_of_ble_eq_true rfl) od_method_3_150 (pc' := 151) rfl ?_
    intro T61 h61 X61 e61 W61 V61_b55
    replace V61_b55 : Arv Z h61 b55 kA55 .char (5 : Int32) [(.int c0), (.int c1), (.int (nar .char c2)), (.int (0 : Int32)), (.int (0 : Int32))] (.int (0 : Int32)) := V61_b55
    have Ea62 := own_xw Ea60 W61 le56
    have N61 := own_fr1 (sl := ((2 : Int32)).toNatClampNeg) N59 n0_b55
    rw [(own_char b2.1 b2.2).1] at V61_b55
    refine own_aload X61 hx hby od_method_3_151 (pc' := 153) rfl rfl rfl ?_
    refine own_iconst X61 hx hby od_method_3_153 (pc' := 154) rfl (z := 3) rfl ?_
    refine own_iload X61 hx hby od_method_3_154 (pc' := 156) rfl rfl ?_
    refine own_stC X61 hx hby hZ e61 V61_b55 ⟨by decide, by decide⟩ 3 rfl (Nat.le_of_ble_eq_true rfl) od_method_3_156 (pc' := 157) rfl ?_
    intro T63 h63 X63 e63 W63 V63_b55
    replace V63_b55 : Arv Z h63 b55 kA55 .char (5 : Int32) [(.int c0), (.int c1), (.int c2), (.int (nar .char c3)), (.int (0 : Int32))] (.int (0 : Int32)) := V63_b55
    have Ea64 := own_xw Ea62 W63 le56
    have N63 := own_fr1 (sl := ((3 : Int32)).toNatClampNeg) N61 n0_b55
    rw [(own_char b3.1 b3.2).1] at V63_b55
    refine own_aload X63 hx hby od_method_3_157 (pc' := 159) rfl rfl rfl ?_
    refine own_iconst X63 hx hby od_method_3_159 (pc' := 160) rfl (z := 4) rfl ?_
    refine own_iload X63 hx hby od_method_3_160 (pc' := 162) rfl rfl ?_
    refine own_stC X63 hx hby hZ e63 V63_b55 ⟨by decide, by decide⟩ 4 rfl (Nat.le_of_ble_eq_true rfl) od_method_3_162 (pc' := 163) rfl ?_
    intro T65 h65 X65 e65 W65 V65_b55
    replace V65_b55 : Arv Z h65 b55 kA55 .char (5 : Int32) [(.int c0), (.int c1), (.int c2), (.int c3), (.int (nar .char c4))] (.int (0 : Int32)) := V65_b55
    have Ea66 := own_xw Ea64 W65 le56
    have N65 := own_fr1 (sl := ((4 : Int32)).toNatClampNeg) N63 n0_b55
    rw [(own_char b4.1 b4.2).1] at V65_b55
    refine own_newO X65 hx hby hZ hown (ow_6 hw) (ow_7 hw) (ow_8 hw) e65 od_method_3_163 (pc' := 166) rfl (by decide) (by decide) ?_
    intro T67 h67 b67 g67 X67 e67 E67 AX67 D67
    have le68 : h0.size ≤ b67 := Nat.le_trans Ea66.1 (Nat.le_of_eq g67.symm)
    have le69 : h65.size ≤ b67 := Nat.le_of_eq g67.symm
    have n0_b67 : n0 ≤ b67 := Nat.le_trans (Nat.le_trans Z0 Ea66.1) (Nat.le_of_eq g67.symm)
    have Ea70 := own_xt Ea66 E67
    have F_coder_b67 : Fld Z h67 b67 "java/lang/String" "coder" "B" (.int (0 : Int32)) := D67 (Or.inr (ow_32 hw)) (ty := .byte) (by decide)
    have F_value_b67 : Fld Z h67 b67 "java/lang/String" "value" "[B" .null := D67 (Or.inr (ow_34 hw)) (ty := (.array .byte)) (by decide)
    refine own_dup X67 hx hby od_method_3_166 (pc' := 167) rfl rfl ?_
    refine own_aload X67 hx hby od_method_3_167 (pc' := 169) rfl rfl rfl ?_
    have hp2 : ∀ c ∈ ([c0, c1, c2, c3, c4] : List Int32), ¬ c < 0 ∧ ¬ (255 : Int32) < c := by intro c hc; simp only [List.mem_cons, List.not_mem_nil, or_false] at hc; rcases hc with rfl | rfl | rfl | rfl | rfl <;> assumption
    refine own_spec X67 hx hby hml hZ hown rfl (ow_9 hw) (ow_10 hw) (ow_11 hw) (by decide) (cc := 1) (ss := 5) (StrChars.Road.backV (W := 1) hZ (own_hws hw) (kI := 4) (ow_7 hw) (cs := [c0, c1, c2, c3, c4]) (bs := ([c0, c1, c2, c3, c4] : List Int32).map (fun c => c.toInt8.toInt32)) (n := 5) n0_b67 (Nat.le_trans Z0 Ea70.1) AX67 F_value_b67 F_coder_b67 (V65_b55.ext E67) (S_cs.ext Ea70) P5 rfl rfl (by decide) (by decide) hp2 rfl (by decide) (by decide)) rfl (argsL := [(.ref b55)]) (rest := [(.ref b67)]) opd_11 rfl rfl (Nat.le_refl _) od_method_3_169 (pc' := 172) rfl rfl e67 (by decide) (by decide) ?_
    rintro v71 T71 h71 L71 X71 e71 ⟨rfl, Nq71, Kq71, Aq71, Cq71, t71, kb71, _, _, _, Vq71, Bq71⟩
    have N71 := N65.app Nq71
    have Ea72 := own_xk Ea70 Kq71 (allS le68 all0)
    have Ea73 := own_xk E67 Kq71 (allS le69 all0)
    replace SN := SN.ext Ea72
    replace CH := CH.ext Ea72
    replace S_cs := S_cs.ext Ea72
    replace V65_b55 := V65_b55.ext Ea73
    have S_b67 : own_Str Z h71 b67 [c0, c1, c2, c3, c4] := ⟨Aq71, Cq71, hp2, t71, kb71, Vq71, Bq71⟩
    have A_b67 := S_b67.exa
    exact own_retAW X71 hx hby hZ (own_ew hw) e71 SN CH hlk hrt rfl rfl od_method_3_172 ⟨b67, [c0, c1, c2, c3, c4], rfl, Ea72, N71, S_b67, Nat.le_of_ble_eq_true rfl⟩ (by decide) (by decide)
theorem ef_rm_law (m : MethodId) (x0 : Int32) (x1 : Int32) (x2 : Int32) : entryFrame m #[(.int x0), (.int x1), (.int x2)] maxLocals = mkF m 0 #[.val (.int x0), .val (.int x1), .val (.int x2), .unset, .unset, .unset, .unset, .unset, .unset, .unset, .unset, .unset] [] := by first | (simp [entryFrame, mkF, argsToLocals, Value.category, maxLocals]; done) | rfl
set_option maxRecDepth 65536 in
set_option maxHeartbeats 40000000 in
theorem rm_law (l : Launch) (Z : State) (a0 : Array Value) (hw : ∀ d ∈ tables_1, d.before a0 Z = true) (p1 p2 p3 : Int32) (G1 : Int32) (go te gd : Addr) (ke : ClassId) (h0 : Heap) (n0 : Nat) (Z0 : n0 ≤ h0.size) (S_cs : Sta Z h0 "java/lang/String" "COMPACT_STRINGS" "Z" (.int G1)) (P5 : ¬ (G1 = (0 : Int32))) (S_l : Sta Z h0 "java/util/ImmutableCollections" "EMPTY_LIST" "Ljava/util/ImmutableCollections$ListN;" (.ref go)) (S_d : Sta Z h0 "java/time/Duration" "ZERO" "Ljava/time/Duration;" (.ref gd)) (A_o : Exa Z h0 go "java/util/ImmutableCollections$ListN") (F_e : Fld Z h0 go "java/util/ImmutableCollections$ListN" "elements" "[Ljava/lang/Object;" (.ref te)) (V_t : Arv Z h0 te ke (.object "java/lang/Object") (0 : Int32) [] .null) (A_d : Exa Z h0 gd "java/time/Duration") (F_s : Fld Z h0 gd "java/time/Duration" "seconds" "J" (.long (0 : Int64))) (F_n : Fld Z h0 gd "java/time/Duration" "nanos" "I" (.int (0 : Int32))) :
    own_MetW l Z own_EL x code maxLocals ret room_1 #[(.int p1), (.int p2), (.int p3)] h0 (fun v h L => v = some (.int 1) ∧ Fr n0 L) := by
  refine own_bodyW (plainFor_of_name (by first | (simp [plainName, overriddenIn]; done) | decide +kernel)) ?_
  intro p e s m below meth c s₁ vm0 hx hby hml hown hnm hlk hrt hZ hZ0 SN CH X0 e0
  have hml : c.maxLocals = 12 := hml
  refine own_enter (ef_rm_law m p1 p2 p3) ?_
  have N0 := Fr.nil n0
  refine own_iloadN X0 hx hby at_0 (pc' := 1) rfl rfl ?_
  refine own_ldcI X0 hx hby hZ hown (ow_0 hw) at_1 (pc' := 3) rfl ?_
  refine own_iand X0 hx hby at_3 (pc' := 4) rfl ?_
  refine own_bipush X0 hx hby at_4 (pc' := 6) rfl (z := 6) rfl ?_
  refine own_irem X0 hx hby at_6 (pc' := 7) rfl (by decide) ?_
  generalize hq_q : ((p3 &&& (2147483647 : Int32)) % (6 : Int32)) = q
  refine own_istoreN X0 hx hby at_7 (pc' := 8) rfl (Ls' := #[.val (.int p1), .val (.int p2), .val (.int p3), .val (.int q), .unset, .unset, .unset, .unset, .unset, .unset, .unset, .unset]) rfl ?_
  refine own_iloadN X0 hx hby at_8 (pc' := 9) rfl rfl ?_
  refine own_iconst X0 hx hby at_9 (pc' := 10) rfl (z := 4) rfl ?_
  refine own_iushr X0 hx hby at_10 (pc' := 11) rfl ?_
  refine own_iconst X0 hx hby at_11 (pc' := 12) rfl (z := 1) rfl ?_
  refine own_iand X0 hx hby at_12 (pc' := 13) rfl ?_
  refine own_join (α := Int32) (F := fun z4 => s₁.setTop (mkF m 21 #[.val (.int p1), .val (.int p2), .val (.int p3), .val (.int q), .unset, .unset, .unset, .unset, .unset, .unset, .unset, .unset] [(.int z4)])) (P := fun z4 => True) ?_ ?_
  · intro z4 h_z4
    show own_E p.tables e below _ (s₁.setTop (mkF m 21 #[.val (.int p1), .val (.int p2), .val (.int p3), .val (.int q), .unset, .unset, .unset, .unset, .unset, .unset, .unset, .unset] [(.int z4)]))
    refine own_istore X0 hx hby at_21 (pc' := 23) rfl (Ls' := #[.val (.int p1), .val (.int p2), .val (.int p3), .val (.int q), .val (.int z4), .unset, .unset, .unset, .unset, .unset, .unset, .unset]) rfl ?_
    refine own_iload X0 hx hby at_23 (pc' := 25) rfl rfl ?_
    refine own_join (α := Int32) (F := fun c0 => s₁.setTop (mkF m 39 #[.val (.int p1), .val (.int p2), .val (.int p3), .val (.int q), .val (.int z4), .unset, .unset, .unset, .unset, .unset, .unset, .unset] [(.int c0)])) (P := fun c0 => ¬ c0 < 0 ∧ ¬ (255 : Int32) < c0) ?_ ?_
    · intro c0 h_c0
      show own_E p.tables e below _ (s₁.setTop (mkF m 39 #[.val (.int p1), .val (.int p2), .val (.int p3), .val (.int q), .val (.int z4), .unset, .unset, .unset, .unset, .unset, .unset, .unset] [(.int c0)]))
      refine own_istore X0 hx hby at_39 (pc' := 41) rfl (Ls' := #[.val (.int p1), .val (.int p2), .val (.int p3), .val (.int q), .val (.int z4), .val (.int c0), .unset, .unset, .unset, .unset, .unset, .unset]) rfl ?_
      refine own_iloadN X0 hx hby at_41 (pc' := 42) rfl rfl ?_
      refine own_bipush X0 hx hby at_42 (pc' := 44) rfl (z := 8) rfl ?_
      refine own_iushr X0 hx hby at_44 (pc' := 45) rfl ?_
      refine own_sipush X0 hx hby at_45 (pc' := 48) rfl (z := 255) rfl ?_
      refine own_iand X0 hx hby at_48 (pc' := 49) rfl ?_
      refine own_i2cE X0 hx hby at_49 (pc' := 50) rfl (own_mask_c _) ?_
      refine own_istore X0 hx hby at_50 (pc' := 52) rfl (Ls' := #[.val (.int p1), .val (.int p2), .val (.int p3), .val (.int q), .val (.int z4), .val (.int c0), .val (.int (((p1.toUInt32 >>> ((8 : Int32) &&& 31).toUInt32).toInt32) &&& (255 : Int32))), .unset, .unset, .unset, .unset, .unset]) rfl ?_
      refine own_iloadN X0 hx hby at_52 (pc' := 53) rfl rfl ?_
      refine own_bipush X0 hx hby at_53 (pc' := 55) rfl (z := 16) rfl ?_
      refine own_iushr X0 hx hby at_55 (pc' := 56) rfl ?_
      refine own_sipush X0 hx hby at_56 (pc' := 59) rfl (z := 255) rfl ?_
      refine own_iand X0 hx hby at_59 (pc' := 60) rfl ?_
      refine own_i2cE X0 hx hby at_60 (pc' := 61) rfl (own_mask_c _) ?_
      refine own_istore X0 hx hby at_61 (pc' := 63) rfl (Ls' := #[.val (.int p1), .val (.int p2), .val (.int p3), .val (.int q), .val (.int z4), .val (.int c0), .val (.int (((p1.toUInt32 >>> ((8 : Int32) &&& 31).toUInt32).toInt32) &&& (255 : Int32))), .val (.int (((p1.toUInt32 >>> ((16 : Int32) &&& 31).toUInt32).toInt32) &&& (255 : Int32))), .unset, .unset, .unset, .unset]) rfl ?_
      refine own_iloadN X0 hx hby at_63 (pc' := 64) rfl rfl ?_
      refine own_bipush X0 hx hby at_64 (pc' := 66) rfl (z := 24) rfl ?_
      refine own_iushr X0 hx hby at_66 (pc' := 67) rfl ?_
      refine own_sipush X0 hx hby at_67 (pc' := 70) rfl (z := 255) rfl ?_
      refine own_iand X0 hx hby at_70 (pc' := 71) rfl ?_
      refine own_i2cE X0 hx hby at_71 (pc' := 72) rfl (own_mask_c _) ?_
      refine own_istore X0 hx hby at_72 (pc' := 74) rfl (Ls' := #[.val (.int p1), .val (.int p2), .val (.int p3), .val (.int q), .val (.int z4), .val (.int c0), .val (.int (((p1.toUInt32 >>> ((8 : Int32) &&& 31).toUInt32).toInt32) &&& (255 : Int32))), .val (.int (((p1.toUInt32 >>> ((16 : Int32) &&& 31).toUInt32).toInt32) &&& (255 : Int32))), .val (.int (((p1.toUInt32 >>> ((24 : Int32) &&& 31).toUInt32).toInt32) &&& (255 : Int32))), .unset, .unset, .unset]) rfl ?_
      refine own_iloadN X0 hx hby at_74 (pc' := 75) rfl rfl ?_
      refine own_sipush X0 hx hby at_75 (pc' := 78) rfl (z := 255) rfl ?_
      refine own_iand X0 hx hby at_78 (pc' := 79) rfl ?_
      refine own_i2cE X0 hx hby at_79 (pc' := 80) rfl (own_mask_c _) ?_
      refine own_istore X0 hx hby at_80 (pc' := 82) rfl (Ls' := #[.val (.int p1), .val (.int p2), .val (.int p3), .val (.int q), .val (.int z4), .val (.int c0), .val (.int (((p1.toUInt32 >>> ((8 : Int32) &&& 31).toUInt32).toInt32) &&& (255 : Int32))), .val (.int (((p1.toUInt32 >>> ((16 : Int32) &&& 31).toUInt32).toInt32) &&& (255 : Int32))), .val (.int (((p1.toUInt32 >>> ((24 : Int32) &&& 31).toUInt32).toInt32) &&& (255 : Int32))), .val (.int (p2 &&& (255 : Int32))), .unset, .unset]) rfl ?_
      refine own_iloadN X0 hx hby at_82 (pc' := 83) rfl rfl ?_
      refine own_iload X0 hx hby at_83 (pc' := 85) rfl rfl ?_
      refine own_iload X0 hx hby at_85 (pc' := 87) rfl rfl ?_
      refine own_iload X0 hx hby at_87 (pc' := 89) rfl rfl ?_
      refine own_iload X0 hx hby at_89 (pc' := 91) rfl rfl ?_
      refine own_iload X0 hx hby at_91 (pc' := 93) rfl rfl ?_
      refine own_callMW X0 hx hby hml hZ hown SN CH (ow_1 hw) (ow_2 hw) (ow_3 hw) (ow_4 hw) (by decide) (cc := 6) (ss := 14) (own_ew hw) (rm_make l Z a0 hw q c0 (((p1.toUInt32 >>> ((8 : Int32) &&& 31).toUInt32).toInt32) &&& (255 : Int32)) (((p1.toUInt32 >>> ((16 : Int32) &&& 31).toUInt32).toInt32) &&& (255 : Int32)) (((p1.toUInt32 >>> ((24 : Int32) &&& 31).toUInt32).toInt32) &&& (255 : Int32)) (p2 &&& (255 : Int32)) G1 h0 n0 Z0 S_cs P5 (own_len6 hq_q) h_c0 (own_mask _) (own_mask _) (own_mask _) (own_mask _)) 0 rfl rfl (by decide) (by decide) rfl (argsL := [(.int q), (.int c0), (.int (((p1.toUInt32 >>> ((8 : Int32) &&& 31).toUInt32).toInt32) &&& (255 : Int32))), (.int (((p1.toUInt32 >>> ((16 : Int32) &&& 31).toUInt32).toInt32) &&& (255 : Int32))), (.int (((p1.toUInt32 >>> ((24 : Int32) &&& 31).toUInt32).toInt32) &&& (255 : Int32))), (.int (p2 &&& (255 : Int32)))]) (rest := []) opd_13 rfl rfl (Nat.le_refl _) at_93 (pc' := 96) rfl rfl e0 (by decide) (by decide) ?_
      rintro v3 T3 vm3 h3 L3 X3 e3 hZ hown SN3 CH3 gr3 ⟨nm, cs, rfl, Eq3, Nq3, O_nm⟩
      have N3 := N0.app Nq3
      replace S_cs := S_cs.ext Eq3
      replace S_l := S_l.ext Eq3
      replace S_d := S_d.ext Eq3
      replace A_o := A_o.ext Eq3
      replace F_e := F_e.ext Eq3
      replace V_t := V_t.ext Eq3
      replace A_d := A_d.ext Eq3
      replace F_s := F_s.ext Eq3
      replace F_n := F_n.ext Eq3
      refine own_astore X3 hx hby at_96 (pc' := 98) rfl rfl (Ls' := #[.val (.int p1), .val (.int p2), .val (.int p3), .val (.int q), .val (.int z4), .val (.int c0), .val (.int (((p1.toUInt32 >>> ((8 : Int32) &&& 31).toUInt32).toInt32) &&& (255 : Int32))), .val (.int (((p1.toUInt32 >>> ((16 : Int32) &&& 31).toUInt32).toInt32) &&& (255 : Int32))), .val (.int (((p1.toUInt32 >>> ((24 : Int32) &&& 31).toUInt32).toInt32) &&& (255 : Int32))), .val (.int (p2 &&& (255 : Int32))), .val (.ref nm), .unset]) rfl ?_
      refine own_callM X3 hx hby hml hZ hown (ow_35 hw) (ow_36 hw) (ow_37 hw) (ow_38 hw) (by decide) (cc := 1) (ss := 2) (rm_allowAll l Z a0 hw go gd h3 n0 (Nat.le_trans Z0 Eq3.1) S_l S_d) 0 rfl rfl (by decide) (by decide) rfl (argsL := []) (rest := []) opd_14 rfl rfl (Nat.le_refl _) at_98 (pc' := 101) rfl rfl e3 (by decide) (by decide) ?_
      rintro v4 T4 h4 L4 X4 e4 ⟨r, rfl, Eq4, Nq4, A_r, F_r1, F_r2⟩
      have N4 := N3.app Nq4
      have Ea5 := own_xt Eq3 Eq4
      replace S_cs := S_cs.ext Eq4
      replace S_l := S_l.ext Eq4
      replace S_d := S_d.ext Eq4
      replace A_o := A_o.ext Eq4
      replace F_e := F_e.ext Eq4
      replace V_t := V_t.ext Eq4
      replace A_d := A_d.ext Eq4
      replace F_s := F_s.ext Eq4
      replace F_n := F_n.ext Eq4
      replace SN3 := SN3.ext Eq4
      replace CH3 := CH3.ext Eq4
      replace O_nm := O_nm.ext Eq4
      refine own_astore X4 hx hby at_101 (pc' := 103) rfl rfl (Ls' := #[.val (.int p1), .val (.int p2), .val (.int p3), .val (.int q), .val (.int z4), .val (.int c0), .val (.int (((p1.toUInt32 >>> ((8 : Int32) &&& 31).toUInt32).toInt32) &&& (255 : Int32))), .val (.int (((p1.toUInt32 >>> ((16 : Int32) &&& 31).toUInt32).toInt32) &&& (255 : Int32))), .val (.int (((p1.toUInt32 >>> ((24 : Int32) &&& 31).toUInt32).toInt32) &&& (255 : Int32))), .val (.int (p2 &&& (255 : Int32))), .val (.ref nm), .val (.ref r)]) rfl ?_
      refine own_aload X4 hx hby at_103 (pc' := 105) rfl rfl rfl ?_
      refine own_aload X4 hx hby at_105 (pc' := 107) rfl rfl rfl ?_
      refine own_virtMW X4 hx hby hml hZ hown SN3 CH3 (ow_57 hw) (ow_58 hw) (notFace_of_selects (args := #[]) (mvT hZ (ow_60 hw))) (ow_60 hw) (ow_59 hw) (ow_37 hw) (ow_61 hw) (by decide) (cc := 3) (ss := 52) (own_ew hw) (rm_allows l Z a0 hw r nm go te ke cs G1 h4 n0 (Nat.le_trans Z0 Ea5.1) S_cs P5 O_nm F_r1 A_o F_e V_t) 0 rfl rfl (by decide) (by decide) rfl A_r (argsL := [(.ref nm)]) (rest := []) opd_15 rfl rfl (Nat.le_refl _) at_107 (pc' := 110) rfl rfl e4 (by decide) (by decide) ?_
      rintro v6 T6 vm6 h6 L6 X6 e6 hZ hown SN6 CH6 gr6 ⟨rfl, Eq6, Nq6⟩
      have N6 := N4.app Nq6
      have Ea7 := own_xt Ea5 Eq6
      refine own_ifN X6 hx hby at_110 (pc' := 113) rfl (feq (by decide)).1 ?_
      replace S_cs := S_cs.ext Eq6
      replace S_l := S_l.ext Eq6
      replace S_d := S_d.ext Eq6
      replace A_o := A_o.ext Eq6
      replace F_e := F_e.ext Eq6
      replace V_t := V_t.ext Eq6
      replace A_d := A_d.ext Eq6
      replace F_s := F_s.ext Eq6
      replace F_n := F_n.ext Eq6
      replace O_nm := O_nm.ext Eq6
      replace A_r := A_r.ext Eq6
      replace F_r2 := F_r2.ext Eq6
      refine own_aload X6 hx hby at_113 (pc' := 115) rfl rfl rfl ?_
      refine own_virtM X6 hx hby hml hZ hown (ow_119 hw) (ow_120 hw) (notFace_of_selects (args := #[]) (mvT hZ (ow_122 hw))) (ow_122 hw) (ow_121 hw) (ow_37 hw) (ow_123 hw) (by decide) (cc := 0) (ss := 0) (rm_delay l Z a0 hw r gd h6 n0 (Nat.le_trans Z0 Ea7.1) F_r2) 0 rfl rfl (by decide) (by decide) rfl A_r (argsL := []) (rest := []) opd_16 rfl rfl (Nat.le_refl _) at_115 (pc' := 118) rfl rfl e6 (by decide) (by decide) ?_
      rintro v8 T8 h8 L8 X8 e8 ⟨rfl, Nq8, rfl⟩
      have N8 := N6.app Nq8
      refine own_virtM X8 hx hby hml hZ hown (ow_124 hw) (ow_125 hw) (notFace_of_selects (args := #[]) (mvT hZ (ow_127 hw))) (ow_127 hw) (ow_126 hw) (ow_48 hw) (ow_128 hw) (by decide) (cc := 0) (ss := 0) (rm_isZero l Z a0 hw gd h6 n0 (Nat.le_trans Z0 Ea7.1) F_s F_n) 0 rfl rfl (by decide) (by decide) rfl A_d (argsL := []) (rest := []) opd_9 rfl rfl (Nat.le_refl _) at_118 (pc' := 121) rfl rfl e8 (by decide) (by decide) ?_
      rintro v9 T9 h9 L9 X9 e9 ⟨rfl, Nq9, rfl⟩
      have N9 := N8.app Nq9
      refine own_ifN X9 hx hby at_121 (pc' := 124) rfl (feq (by decide)).1 ?_
      refine own_iconst X9 hx hby at_124 (pc' := 125) rfl (z := 1) rfl ?_
      refine own_goto X9 hx hby at_125 (by decide) (pc' := 129) (by decide) ?_
      exact own_retNW X9 hx hby hZ (own_ew hw) e9 SN6 CH6 hlk hrt (by simp) at_129 (z' := (1 : Int32)) rfl ⟨rfl, N9⟩ (by decide) (by decide)
    · intro J2
      by_cases hb2 : z4 = (0 : Int32)
      · refine own_ifY X0 hx hby at_25 (by decide) (pc' := 33) (by decide) (teq hb2).1 ?_
        refine own_iloadN X0 hx hby at_33 (pc' := 34) rfl rfl ?_
        refine own_sipush X0 hx hby at_34 (pc' := 37) rfl (z := 255) rfl ?_
        refine own_iand X0 hx hby at_37 (pc' := 38) rfl ?_
        refine own_i2cE X0 hx hby at_38 (pc' := 39) rfl (own_mask_c _) ?_
        exact J2 _ (own_mask _)
      · refine own_ifN X0 hx hby at_25 (pc' := 28) rfl (feq hb2).1 ?_
        refine own_bipush X0 hx hby at_28 (pc' := 30) rfl (z := 47) rfl ?_
        refine own_goto X0 hx hby at_30 (by decide) (pc' := 39) (by decide) ?_
        exact J2 _ ⟨by decide, by decide⟩
  · intro J1
    by_cases hb1 : (((p3.toUInt32 >>> ((4 : Int32) &&& 31).toUInt32).toInt32) &&& (1 : Int32)) = (0 : Int32)
    · refine own_ifY X0 hx hby at_13 (by decide) (pc' := 20) (by decide) (teq hb1).1 ?_
      refine own_iconst X0 hx hby at_20 (pc' := 21) rfl (z := 0) rfl ?_
      exact J1 _ trivial
    · refine own_ifN X0 hx hby at_13 (pc' := 16) rfl (feq hb1).1 ?_
      refine own_iconst X0 hx hby at_16 (pc' := 17) rfl (z := 1) rfl ?_
      refine own_goto X0 hx hby at_17 (by decide) (pc' := 21) (by decide) ?_
      exact J1 _ trivial
set_option maxRecDepth 65536 in
set_option maxHeartbeats 40000000 in
theorem comes_1 {Post : Tables → Env → Array Value → State → Outcome → State → Prop} (hpost : ∀ tb e args s v u, (limb_1_1.after args s (.returned v) u = true ∧ limb_1_2.after args s (.returned v) u = true ∧ True) → ReturnedEndW s (.returned v) u (Jvm.fieldLocs frame_1_writes args s ++ Jvm.arrayLocs frame_1_arrays args s ++ Jvm.staticLocs frame_1_statics s) 24 2176 → Post tb e args s (.returned v) u) :
    ArmFor flags0 classFile x code maxLocals ret World_1 tables_1 room_1 Calls_1 rest_1 Pre_1 Post := by
  intro l hfl _ _ p e ha hc hk s m args below hf hA hF happ hP
  obtain ⟨hcalls, hrest, hpre⟩ := hP
  obtain ⟨-, -, -, hnamed, -, -, -, hat⟩ := (Spec.applies_iff hf).mp happ
  obtain ⟨hg, hn⟩ := and_e (Cond.before_iff.mp (show (Jvm.Cond.and given_1 narrow_1).before args s = true from hpre))
  obtain ⟨g1, g2⟩ := and_e hg
  obtain ⟨g3, g4⟩ := and_e g2
  obtain ⟨g5, g6⟩ := and_e g4
  obtain ⟨w0, w1, w2, rfl⟩ : ∃ w0 w1 w2 : Value, args = #[w0, w1, w2] := by
    have hs : args.size = 3 := by simpa [Cond.value, given_1] using g1
    obtain ⟨L⟩ := args
    match L, hs with
    | [w0, w1, w2], _ => exact ⟨w0, w1, w2, rfl⟩
  have hw := fun d (hd : d ∈ tables_1) => atoms_spec (ws := Jvm.Cond.code x code maxLocals ret :: tables_1) hat d (List.mem_cons_of_mem _ hd)
  have hfit : Fit s := fun {y c} hc i hi => by
    obtain ⟨ha, rfl⟩ := Array.getElem?_eq_some_iff.mp hc
    have q := List.all_eq_true.mp ((Array.all_eq_true_iff_forall_mem.mp hF) _ (Array.getElem_mem ha)) i (List.mem_range.mpr hi)
    simpa [Array.getElem?_eq_getElem hi] using q
  obtain ⟨hsets, hown0⟩ := atoms_of _ (rest_1_c_eq ▸ (show rest_1_c.before _ s = true from hrest))
  have hr0 := Cond.before_iff.mp hown0
  obtain ⟨i0, ei0⟩ := is_v g3
  obtain rfl : w0 = (.int i0) := Option.some.inj ei0
  obtain ⟨i1, ei1⟩ := is_v g5
  obtain rfl : w1 = (.int i1) := Option.some.inj ei1
  obtain ⟨i2, ei2⟩ := is_v g6
  obtain rfl : w2 = (.int i2) := Option.some.inj ei2
  obtain ⟨G1, eG1⟩ := is_v (Cond.before_iff.mp (hsets _ (List.mem_of_getElem? (i := 1) rfl)))
  have S_cs := Sta.start eG1 (Or.inl (hsets _ (List.mem_of_getElem? (i := 0) rfl)))
  have P5 : ¬ (G1 = (0 : Int32)) := own_not0 eG1 (hsets _ (List.mem_of_getElem? (i := 2) rfl))
  obtain ⟨go, eo⟩ := exa_v (Cond.before_iff.mp (hsets _ (List.mem_of_getElem? (i := 11) rfl)))
  have S_l := Sta.start eo (Or.inl (hsets _ (List.mem_of_getElem? (i := 10) rfl)))
  have A_o := Exa.start eo (Cond.before_iff.mp (hsets _ (List.mem_of_getElem? (i := 11) rfl)))
  obtain ⟨te, et⟩ := arr_v (Cond.before_iff.mp (hsets _ (List.mem_of_getElem? (i := 12) rfl)))
  have F_e := Fld.start ((fld_at eo).symm.trans et)
  obtain ⟨ke, V_t⟩ := own_emptyT et (hsets _ (List.mem_of_getElem? (i := 12) rfl)) (hsets _ (List.mem_of_getElem? (i := 14) rfl))
  obtain ⟨gd, ed⟩ := exa_v (Cond.before_iff.mp (hsets _ (List.mem_of_getElem? (i := 18) rfl)))
  have S_d := Sta.start ed (Or.inl (hsets _ (List.mem_of_getElem? (i := 17) rfl)))
  have A_d := Exa.start ed (Cond.before_iff.mp (hsets _ (List.mem_of_getElem? (i := 18) rfl)))
  have F_s := Fld.start ((fld_at ed).symm.trans (own_eqL (Cond.before_iff.mp (hsets _ (List.mem_of_getElem? (i := 19) rfl)))))
  have F_n := Fld.start ((fld_at ed).symm.trans (own_eqI (Cond.before_iff.mp (hsets _ (List.mem_of_getElem? (i := 20) rfl)))))
  have hCH : CHv s own_EL s.vm s.heap := CHv.start (own_ew hw) (fun p hp => hcalls.1 p hp) (hsets _ (List.mem_of_getElem? (i := 2) rfl)) (ow_24 hw) (ow_7 hw)
  obtain ⟨n, o, h1, h2, h3, _, L, rfl, ⟨rfl, N⟩, -, hq⟩ := rm_law l s _ hw i0 i1 i2 G1 go te gd ke s.heap s.heap.size (Nat.le_refl _) S_cs P5 S_l S_d A_o F_e V_t A_d F_s F_n tables_1 p e ha hc hk s m _ below hf ((Spec.applies_iff_loose hf).mp happ).1 ⟨rfl, State.Warmed39.refl s, rfl, hCH⟩ trivial
  refine ⟨n, _, h1, h2, h3, hpost _ _ _ _ _ _ ⟨Cond.after_iff.mpr rfl, Cond.after_iff.mpr (eq_i res_at (Term.int_eval (1)) rfl), trivial⟩ ⟨hq.1, hq.2.1, hq.2.2.1, (hq.2.2.2.sift fun y hy => Or.inr (N y hy)).mono (by decide) (by decide)⟩⟩
theorem main_1_1 : Claimed_1_1 := comes_1 fun _ _ _ _ _ _ h hF => ⟨h.1, hF⟩
theorem main_1_2 : Claimed_1_2 := comes_1 fun _ _ _ _ _ _ h hF => ⟨h.2.1, hF⟩
end Jvm.Pilot.@@N@@
namespace Jvm.Pilot.@@N@@
open Jvm Jvm.ClassFile Sem Op Lib Jvm.Free Jvm.Stand Jvm.Pilot.@@N@@.Jvm.D
/-! MADE BY PROGRAM (witnessworld.py) out of the Statement's table words and the real class files: 36 classes; the members and pool entries that the words name. The judged class is class 1, her method 1. -/
namespace start1
open Jvm.ClassFile
def u (s : String) : CpInfo := .utf8 (stringToUtf16 s)
/-- a pool by its gaps: so many unusable entries, then the entry; so many at the end -/
def gap : Nat → List CpInfo → List CpInfo
  | 0, r => r
  | n + 1, r => .unusable :: gap n r
def poolList (es : List (Nat × CpInfo)) (last : Nat) : List CpInfo := es.foldr (fun e r => gap e.1 (e.2 :: r)) (gap last [])
def pool (es : List (Nat × CpInfo)) (last : Nat) : Array CpInfo := ⟨poolList es last⟩
def fileOf (pool : Array CpInfo) (this : Nat) (attrs : Array Attribute := #[]) (ms : Array MethodInfo := #[]) (fl : Nat := 33) (sup : Nat := 0) (ifs : Array Nat := #[]) (fds : Array FieldInfo := #[]) : ClassFile where
  minorVersion := 0
  majorVersion := 65
  constantPool := pool
  accessFlags := fl
  thisClass := this
  superClass := sup
  interfaces := ifs
  fields := fds
  methods := ms
  attributes := attrs
def plain (name : String) (sup : Option ClassId) : Class where
  name := name
  kind := .ordinary
  loader := none
  accessFlags := 33
  super := sup
  interfaces := #[]
  cf := none
  fields := #[]
  methods := #[]
  instanceTypes := #[]
  staticTypes := #[]
  resolved := #[]
  callSites := []
  init := .initialized
  statics := none
  mirror := none

def pool0 : Array CpInfo := pool [(5, u "<init>"), (0, u "()V"), (1, .class_ 10), (1, u "java/lang/Object")] 113

def k0c0 : Code := { maxStack := 0, maxLocals := 1, code := object_method_1_code, exceptionTable := #[], attributes := #[] }
def k0m0 : Method := { name := "<init>", desc := "()V", sig := { parameters := [], returnType := none }, accessFlags := 1, code := some k0c0 }
/-- java/lang/Object -/
def k0 : Class := { plain "java/lang/Object" none with
  accessFlags := 33
  interfaces := #[]
  cf := some (fileOf pool0 8 #[] #[{ accessFlags := 1, nameIndex := 5, descriptorIndex := 6, attributes := #[] }] 33 0 #[] #[])
  fields := #[]
  methods := #[k0m0]
  instanceTypes := #[]
  staticTypes := #[]
  resolved := Array.replicate 124 none
  statics := none }

def pool1 : Array CpInfo := pool [(2, .class_ 4), (1, u "java/lang/Object"), (0, u "<init>"), (0, u "()V"), (0, .integer 2147483647), (0, .methodref 9 10), (0, .class_ 11), (0, .nameAndType 12 13), (0, u "com/example/structured_data_crawler/structureddatacrawler/crawl/RobotsRulesAllowAllPinLaw"), (0, u "make"), (0, u "(ICCCCC)Ljava/lang/String;"), (0, .methodref 15 16), (0, .class_ 17), (0, .nameAndType 18 19), (0, u "com/example/structured_data_crawler/structureddatacrawler/crawl/RobotsRules"), (0, u "allowAll"), (0, u "()Lcom/example/structured_data_crawler/structureddatacrawler/crawl/RobotsRules;"), (0, .methodref 15 21), (0, .nameAndType 22 23), (0, u "allows"), (0, u "(Ljava/lang/String;)Z"), (0, .methodref 15 25), (0, .nameAndType 26 27), (0, u "crawlDelay"), (0, u "()Ljava/time/Duration;"), (0, .methodref 29 30), (0, .class_ 31), (0, .nameAndType 32 33), (0, u "java/time/Duration"), (0, u "isZero"), (0, u "()Z"), (0, .class_ 35), (0, u "java/lang/String"), (0, .methodref 34 37), (0, .nameAndType 5 38), (0, u "([C)V"), (0, .methodref 34 40), (0, .nameAndType 41 42), (0, u "valueOf"), (0, u "(C)Ljava/lang/String;"), (2, u "law"), (0, u "(III)Z")] 3

def k1m0 : Method := { name := "<init>", desc := "()V", sig := { parameters := [], returnType := none }, accessFlags := 2, code := none }
def k1c1 : Code := { maxStack := 6, maxLocals := 12, code := code, exceptionTable := #[], attributes := #[] }
def k1m1 : Method := { name := "law", desc := "(III)Z", sig := { parameters := [.int, .int, .int], returnType := some .boolean }, accessFlags := 9, code := some k1c1 }
def k1c2 : Code := { maxStack := 3, maxLocals := 7, code := method_3_code, exceptionTable := #[], attributes := #[] }
def k1m2 : Method := { name := "make", desc := "(ICCCCC)Ljava/lang/String;", sig := { parameters := [.int, .char, .char, .char, .char, .char], returnType := some (.object "java/lang/String") }, accessFlags := 10, code := some k1c2 }
/-- com/example/structured_data_crawler/structureddatacrawler/crawl/RobotsRulesAllowAllPinLaw -/
def k1 : Class := { plain "com/example/structured_data_crawler/structureddatacrawler/crawl/RobotsRulesAllowAllPinLaw" (some 0) with
  accessFlags := 49
  interfaces := #[]
  cf := some (fileOf pool1 9 #[] #[{ accessFlags := 2, nameIndex := 5, descriptorIndex := 6, attributes := #[] }, { accessFlags := 9, nameIndex := 45, descriptorIndex := 46, attributes := #[] }, { accessFlags := 10, nameIndex := 12, descriptorIndex := 13, attributes := #[] }] 49 2 #[] #[])
  fields := #[]
  methods := #[k1m0, k1m1, k1m2]
  instanceTypes := #[]
  staticTypes := #[]
  resolved := Array.replicate 50 none
  statics := none }

def pool2 : Array CpInfo := pool [(1, .class_ 2), (0, u "java/io/Serializable"), (0, .class_ 4), (0, u "java/lang/Object")] 2

/-- java/io/Serializable -/
def k2 : Class := { plain "java/io/Serializable" (some 0) with
  accessFlags := 1537
  interfaces := #[]
  cf := some (fileOf pool2 1 #[] #[] 1537 3 #[] #[])
  fields := #[]
  methods := #[]
  instanceTypes := #[]
  staticTypes := #[]
  resolved := Array.replicate 7 none
  statics := none }

def pool3 : Array CpInfo := pool [(1, .class_ 2), (0, u "java/lang/Comparable"), (0, .class_ 4), (0, u "java/lang/Object")] 7

/-- java/lang/Comparable -/
def k3 : Class := { plain "java/lang/Comparable" (some 0) with
  accessFlags := 1537
  interfaces := #[]
  cf := some (fileOf pool3 1 #[] #[] 1537 3 #[] #[])
  fields := #[]
  methods := #[]
  instanceTypes := #[]
  staticTypes := #[]
  resolved := Array.replicate 12 none
  statics := none }

def pool4 : Array CpInfo := pool [(2, .class_ 4), (1, u "java/lang/CharSequence"), (42, .class_ 48), (0, u "java/lang/CharSequence$1CodePointIterator"), (10, .class_ 60), (0, u "java/lang/CharSequence$1CharIterator"), (5, .class_ 67), (0, u "java/lang/Object")] 63

/-- java/lang/CharSequence -/
def k4 : Class := { plain "java/lang/CharSequence" (some 0) with
  accessFlags := 1537
  interfaces := #[]
  cf := some (fileOf pool4 2 #[.nestMembers #[47, 59]] #[] 1537 66 #[] #[])
  fields := #[]
  methods := #[]
  instanceTypes := #[]
  staticTypes := #[]
  resolved := Array.replicate 131 none
  statics := none }

def pool5 : Array CpInfo := pool [(1, .class_ 2), (0, u "java/lang/constant/Constable"), (0, .class_ 4), (0, u "java/lang/Object")] 6

/-- java/lang/constant/Constable -/
def k5 : Class := { plain "java/lang/constant/Constable" (some 0) with
  accessFlags := 1537
  interfaces := #[]
  cf := some (fileOf pool5 1 #[] #[] 1537 3 #[] #[])
  fields := #[]
  methods := #[]
  instanceTypes := #[]
  staticTypes := #[]
  resolved := Array.replicate 11 none
  statics := none }

def pool6 : Array CpInfo := pool [(1, .class_ 2), (0, u "java/lang/constant/ConstantDesc"), (0, .class_ 4), (0, u "java/lang/Object")] 32

/-- java/lang/constant/ConstantDesc -/
def k6 : Class := { plain "java/lang/constant/ConstantDesc" (some 0) with
  accessFlags := 1537
  interfaces := #[]
  cf := some (fileOf pool6 1 #[] #[] 1537 3 #[] #[])
  fields := #[]
  methods := #[]
  instanceTypes := #[]
  staticTypes := #[]
  resolved := Array.replicate 37 none
  statics := none }

def pool7 : Array CpInfo := pool [(1, .methodref 2 3), (0, .class_ 4), (0, .nameAndType 5 6), (0, u "java/lang/Object"), (0, u "<init>"), (0, u "()V"), (0, .string 8), (0, u ""), (0, .fieldref 10 11), (0, .class_ 12), (0, .nameAndType 13 14), (0, u "java/lang/String"), (0, u "value"), (0, u "[B"), (0, .fieldref 10 16), (0, .nameAndType 17 18), (0, u "coder"), (0, u "B"), (2, u "hash"), (0, u "I"), (2, u "hashIsZero"), (0, u "Z"), (0, .methodref 10 28), (0, .nameAndType 5 29), (0, u "([CIILjava/lang/Void;)V"), (8, .fieldref 10 39), (0, .nameAndType 40 26), (0, u "COMPACT_STRINGS"), (1, .class_ 44), (1, u "java/lang/StringUTF16"), (0, u "compress"), (1, .methodref 42 48), (0, .nameAndType 49 50), (0, u "coderFromArrayLen"), (0, u "([BI)B"), (2, u "toBytes"), (53, .class_ 109), (1, u "java/lang/StringLatin1"), (67, .methodref 42 178), (0, .nameAndType 45 179), (0, u "([CII)[B"), (29, .methodref 10 210), (0, .nameAndType 5 211), (0, u "([BB)V"), (157, u "(C)Z"), (171, .methodref 107 542), (0, .nameAndType 543 544), (0, u "equals"), (0, u "([B[B)Z"), (28, u "(Ljava/lang/Object;)Z"), (1, .class_ 576), (0, u "java/lang/CharSequence"), (22, u "CASE_INSENSITIVE_ORDER"), (0, u "Ljava/util/Comparator;"), (181, u "valueOf"), (0, u "(C)Ljava/lang/String;"), (226, u "([C)V"), (4, .methodref 107 1016), (0, .nameAndType 1017 369), (0, u "canEncode"), (0, .methodref 107 1019), (0, .nameAndType 53 1020), (0, u "(C)[B"), (80, u "serialPersistentFields"), (0, u "[Ljava/io/ObjectStreamField;"), (0, .class_ 1104), (0, u "java/lang/String$CaseInsensitiveComparator"), (1, .class_ 1107), (0, u "java/io/Serializable"), (0, .class_ 1109), (0, u "java/lang/Comparable"), (0, .class_ 1111), (0, u "java/lang/constant/Constable"), (0, .class_ 1113), (0, u "java/lang/constant/ConstantDesc"), (2, u "serialVersionUID"), (0, u "J"), (3, u "REPL"), (0, u "C"), (2, u "LATIN1"), (1, u "UTF16")] 323

def k7m0 : Method := { name := "<init>", desc := "()V", sig := { parameters := [], returnType := none }, accessFlags := 1, code := none }
def k7c1 : Code := { maxStack := 5, maxLocals := 2, code := jdk_42_method_3_code, exceptionTable := #[], attributes := #[] }
def k7m1 : Method := { name := "<init>", desc := "([C)V", sig := { parameters := [(.array .char)], returnType := none }, accessFlags := 1, code := some k7c1 }
def k7c2 : Code := { maxStack := 2, maxLocals := 3, code := jdk_42_method_66_code, exceptionTable := #[], attributes := #[] }
def k7m2 : Method := { name := "equals", desc := "(Ljava/lang/Object;)Z", sig := { parameters := [(.object "java/lang/Object")], returnType := some .boolean }, accessFlags := 1, code := some k7c2 }
def k7c3 : Code := { maxStack := 4, maxLocals := 1, code := jdk_42_method_139_code, exceptionTable := #[], attributes := #[] }
def k7m3 : Method := { name := "valueOf", desc := "(C)Ljava/lang/String;", sig := { parameters := [.char], returnType := some (.object "java/lang/String") }, accessFlags := 9, code := some k7c3 }
def k7c4 : Code := { maxStack := 4, maxLocals := 6, code := jdk_42_method_149_code, exceptionTable := #[], attributes := #[] }
def k7m4 : Method := { name := "<init>", desc := "([CIILjava/lang/Void;)V", sig := { parameters := [(.array .char), .int, .int, (.object "java/lang/Void")], returnType := none }, accessFlags := 2, code := some k7c4 }
def k7c5 : Code := { maxStack := 2, maxLocals := 3, code := jdk_42_method_151_code, exceptionTable := #[], attributes := #[] }
def k7m5 : Method := { name := "<init>", desc := "([BB)V", sig := { parameters := [(.array .byte), .byte], returnType := none }, accessFlags := 0, code := some k7c5 }
/-- java/lang/String -/
def k7 : Class := { plain "java/lang/String" (some 0) with
  accessFlags := 49
  interfaces := #[2, 3, 4, 5, 6]
  cf := some (fileOf pool7 10 #[.nestMembers #[1103]] #[{ accessFlags := 1, nameIndex := 5, descriptorIndex := 6, attributes := #[] }, { accessFlags := 1, nameIndex := 5, descriptorIndex := 1010, attributes := #[] }, { accessFlags := 1, nameIndex := 543, descriptorIndex := 573, attributes := #[] }, { accessFlags := 9, nameIndex := 782, descriptorIndex := 783, attributes := #[] }, { accessFlags := 2, nameIndex := 5, descriptorIndex := 29, attributes := #[] }, { accessFlags := 0, nameIndex := 5, descriptorIndex := 211, attributes := #[] }] 49 2 #[1106, 1108, 575, 1110, 1112] #[{ accessFlags := 18, nameIndex := 13, descriptorIndex := 14, attributes := #[] }, { accessFlags := 18, nameIndex := 17, descriptorIndex := 18, attributes := #[] }, { accessFlags := 2, nameIndex := 21, descriptorIndex := 22, attributes := #[] }, { accessFlags := 2, nameIndex := 25, descriptorIndex := 26, attributes := #[] }, { accessFlags := 26, nameIndex := 1116, descriptorIndex := 1117, attributes := #[] }, { accessFlags := 24, nameIndex := 40, descriptorIndex := 26, attributes := #[] }, { accessFlags := 26, nameIndex := 1101, descriptorIndex := 1102, attributes := #[] }, { accessFlags := 26, nameIndex := 1121, descriptorIndex := 1122, attributes := #[] }, { accessFlags := 25, nameIndex := 599, descriptorIndex := 600, attributes := #[] }, { accessFlags := 24, nameIndex := 1125, descriptorIndex := 18, attributes := #[] }, { accessFlags := 24, nameIndex := 1127, descriptorIndex := 18, attributes := #[] }])
  fields := #[{ name := "value", type := (.array .byte), accessFlags := 18, slot := 0, constantValue := 0 }, { name := "coder", type := .byte, accessFlags := 18, slot := 1, constantValue := 0 }, { name := "hash", type := .int, accessFlags := 2, slot := 2, constantValue := 0 }, { name := "hashIsZero", type := .boolean, accessFlags := 2, slot := 3, constantValue := 0 }, { name := "serialVersionUID", type := .long, accessFlags := 26, slot := 0, constantValue := 0 }, { name := "COMPACT_STRINGS", type := .boolean, accessFlags := 24, slot := 1, constantValue := 0 }, { name := "serialPersistentFields", type := (.array (.object "java/io/ObjectStreamField")), accessFlags := 26, slot := 2, constantValue := 0 }, { name := "REPL", type := .char, accessFlags := 26, slot := 3, constantValue := 0 }, { name := "CASE_INSENSITIVE_ORDER", type := (.object "java/util/Comparator"), accessFlags := 25, slot := 4, constantValue := 0 }, { name := "LATIN1", type := .byte, accessFlags := 24, slot := 5, constantValue := 0 }, { name := "UTF16", type := .byte, accessFlags := 24, slot := 6, constantValue := 0 }]
  methods := #[k7m0, k7m1, k7m2, k7m3, k7m4, k7m5]
  instanceTypes := #[(.array .byte), .byte, .int, .boolean]
  staticTypes := #[.long, .boolean, (.array (.object "java/io/ObjectStreamField")), .char, (.object "java/util/Comparator"), .byte, .byte]
  resolved := Array.replicate 1451 none
  statics := some 0 }

def pool8 : Array CpInfo := pool [(6, .class_ 8), (1, u "java/lang/Object"), (0, u "<init>"), (0, u "()V"), (1, .class_ 14), (1, u "java/lang/StringUTF16"), (31, u "$assertionsDisabled"), (0, u "Z"), (13, u "HI_BYTE_SHIFT"), (0, u "I"), (2, u "LO_BYTE_SHIFT"), (49, .methodref 12 116), (0, .nameAndType 117 118), (0, u "compress"), (0, u "([CI[BII)I"), (3, u "([CII)[B"), (138, u "coderFromArrayLen"), (0, u "([BI)B"), (106, .class_ 371), (1, u "java/lang/StringUTF16$LinesSpliterator"), (58, u "MAX_LENGTH"), (196, .class_ 628), (0, u "java/lang/StringUTF16$CodePointsSpliterator"), (0, .class_ 630), (0, u "java/lang/StringUTF16$CharsSpliterator")] 4

def k8m0 : Method := { name := "<init>", desc := "()V", sig := { parameters := [], returnType := none }, accessFlags := 0, code := none }
def k8c1 : Code := { maxStack := 2, maxLocals := 2, code := jdk_52_method_15_code, exceptionTable := #[], attributes := #[] }
def k8m1 : Method := { name := "coderFromArrayLen", desc := "([BI)B", sig := { parameters := [(.array .byte), .int], returnType := some .byte }, accessFlags := 8, code := some k8c1 }
def k8c2 : Code := { maxStack := 5, maxLocals := 6, code := jdk_52_method_16_code, exceptionTable := #[], attributes := #[] }
def k8m2 : Method := { name := "compress", desc := "([CII)[B", sig := { parameters := [(.array .char), .int, .int], returnType := some (.array .byte) }, accessFlags := 9, code := some k8c2 }
def k8c3 : Code := { maxStack := 3, maxLocals := 7, code := jdk_52_method_21_code, exceptionTable := #[], attributes := #[] }
def k8m3 : Method := { name := "compress", desc := "([CI[BII)I", sig := { parameters := [(.array .char), .int, (.array .byte), .int, .int], returnType := some .int }, accessFlags := 9, code := some k8c3 }
/-- java/lang/StringUTF16 -/
def k8 : Class := { plain "java/lang/StringUTF16" (some 0) with
  accessFlags := 48
  interfaces := #[]
  cf := some (fileOf pool8 12 #[.nestMembers #[627, 629, 369]] #[{ accessFlags := 0, nameIndex := 9, descriptorIndex := 10, attributes := #[] }, { accessFlags := 8, nameIndex := 261, descriptorIndex := 262, attributes := #[] }, { accessFlags := 9, nameIndex := 117, descriptorIndex := 122, attributes := #[] }, { accessFlags := 9, nameIndex := 117, descriptorIndex := 118, attributes := #[] }] 48 6 #[] #[{ accessFlags := 26, nameIndex := 61, descriptorIndex := 62, attributes := #[] }, { accessFlags := 26, nameIndex := 65, descriptorIndex := 62, attributes := #[] }, { accessFlags := 24, nameIndex := 430, descriptorIndex := 62, attributes := #[] }, { accessFlags := 4120, nameIndex := 46, descriptorIndex := 47, attributes := #[] }])
  fields := #[{ name := "HI_BYTE_SHIFT", type := .int, accessFlags := 26, slot := 0, constantValue := 0 }, { name := "LO_BYTE_SHIFT", type := .int, accessFlags := 26, slot := 1, constantValue := 0 }, { name := "MAX_LENGTH", type := .int, accessFlags := 24, slot := 2, constantValue := 0 }, { name := "$assertionsDisabled", type := .boolean, accessFlags := 4120, slot := 3, constantValue := 0 }]
  methods := #[k8m0, k8m1, k8m2, k8m3]
  instanceTypes := #[]
  staticTypes := #[.int, .int, .int, .boolean]
  resolved := Array.replicate 635 none
  statics := none }

def pool9 : Array CpInfo := pool [(1, .class_ 2), (0, u "com/example/structured_data_crawler/structureddatacrawler/crawl/RobotsRules"), (0, .methodref 4 5), (0, .class_ 6), (0, .nameAndType 7 8), (0, u "java/lang/Object"), (0, u "<init>"), (0, u "()V"), (0, .fieldref 1 10), (0, .nameAndType 11 12), (0, u "rules"), (0, u "Ljava/util/List;"), (0, .fieldref 1 14), (0, .nameAndType 15 16), (0, u "crawlDelay"), (0, u "Ljava/time/Duration;"), (2, u "PRODUCT_TOKEN"), (0, u "Ljava/util/regex/Pattern;"), (11, u "()Z"), (0, .interfaceMethodref 34 35), (0, .class_ 36), (0, .nameAndType 37 38), (0, u "java/util/List"), (0, u "of"), (0, u "()Ljava/util/List;"), (0, .fieldref 40 41), (0, .class_ 42), (0, .nameAndType 43 16), (0, u "java/time/Duration"), (0, u "ZERO"), (0, .methodref 1 45), (0, .nameAndType 7 46), (0, u "(Ljava/util/List;Ljava/time/Duration;)V"), (0, .class_ 48), (0, u "com/example/structured_data_crawler/structureddatacrawler/crawl/RobotsRules$Rule"), (8, .class_ 58), (0, u "java/lang/String"), (23, .class_ 83), (0, u "com/example/structured_data_crawler/structureddatacrawler/crawl/RobotsRules$Members"), (9, u "(Ljava/lang/String;)Z"), (44, u "(Ljava/lang/Object;)Z"), (22, .interfaceMethodref 34 162), (0, .nameAndType 163 164), (0, u "iterator"), (0, u "()Ljava/util/Iterator;"), (0, .interfaceMethodref 166 167), (0, .class_ 168), (0, .nameAndType 169 32), (0, u "java/util/Iterator"), (0, u "hasNext"), (8, u "I"), (4, .string 184), (0, u "/robots.txt"), (0, .methodref 57 186), (0, .nameAndType 187 138), (0, u "equals"), (10, u "DECIMAL"), (0, u "PATH"), (0, u "Ljava/lang/String;"), (1, u "MAX_BYTES"), (0, u "READ_BYTES"), (1, u "ANY_CRAWLER"), (0, u "WILDCARD"), (0, u "END_ANCHOR"), (2, u "BYTE_ORDER_MARK"), (0, u "NANO_DIGITS"), (7, u "allowAll"), (0, u "()Lcom/example/structured_data_crawler/structureddatacrawler/crawl/RobotsRules;"), (7, u "allows"), (0, u "()Ljava/time/Duration;")] 8

def k9c0 : Code := { maxStack := 2, maxLocals := 3, code := prog_10_method_1_code, exceptionTable := #[], attributes := #[] }
def k9m0 : Method := { name := "<init>", desc := "(Ljava/util/List;Ljava/time/Duration;)V", sig := { parameters := [(.object "java/util/List"), (.object "java/time/Duration")], returnType := none }, accessFlags := 2, code := some k9c0 }
def k9c1 : Code := { maxStack := 4, maxLocals := 0, code := prog_10_method_3_code, exceptionTable := #[], attributes := #[] }
def k9m1 : Method := { name := "allowAll", desc := "()Lcom/example/structured_data_crawler/structureddatacrawler/crawl/RobotsRules;", sig := { parameters := [], returnType := some (.object "com/example/structured_data_crawler/structureddatacrawler/crawl/RobotsRules") }, accessFlags := 9, code := some k9c1 }
def k9c2 : Code := { maxStack := 2, maxLocals := 5, code := prog_10_method_7_code, exceptionTable := #[], attributes := #[] }
def k9m2 : Method := { name := "allows", desc := "(Ljava/lang/String;)Z", sig := { parameters := [(.object "java/lang/String")], returnType := some .boolean }, accessFlags := 1, code := some k9c2 }
def k9c3 : Code := { maxStack := 1, maxLocals := 1, code := prog_10_method_8_code, exceptionTable := #[], attributes := #[] }
def k9m3 : Method := { name := "crawlDelay", desc := "()Ljava/time/Duration;", sig := { parameters := [], returnType := some (.object "java/time/Duration") }, accessFlags := 1, code := some k9c3 }
/-- com/example/structured_data_crawler/structureddatacrawler/crawl/RobotsRules -/
def k9 : Class := { plain "com/example/structured_data_crawler/structureddatacrawler/crawl/RobotsRules" (some 0) with
  accessFlags := 33
  interfaces := #[]
  cf := some (fileOf pool9 1 #[.nestMembers #[47, 82]] #[{ accessFlags := 2, nameIndex := 7, descriptorIndex := 46, attributes := #[] }, { accessFlags := 9, nameIndex := 219, descriptorIndex := 220, attributes := #[] }, { accessFlags := 1, nameIndex := 228, descriptorIndex := 93, attributes := #[] }, { accessFlags := 1, nameIndex := 15, descriptorIndex := 229, attributes := #[] }] 33 4 #[] #[{ accessFlags := 26, nameIndex := 19, descriptorIndex := 20, attributes := #[] }, { accessFlags := 25, nameIndex := 199, descriptorIndex := 200, attributes := #[] }, { accessFlags := 26, nameIndex := 202, descriptorIndex := 178, attributes := #[] }, { accessFlags := 25, nameIndex := 203, descriptorIndex := 178, attributes := #[] }, { accessFlags := 26, nameIndex := 205, descriptorIndex := 200, attributes := #[] }, { accessFlags := 26, nameIndex := 206, descriptorIndex := 200, attributes := #[] }, { accessFlags := 26, nameIndex := 207, descriptorIndex := 200, attributes := #[] }, { accessFlags := 26, nameIndex := 210, descriptorIndex := 200, attributes := #[] }, { accessFlags := 26, nameIndex := 198, descriptorIndex := 20, attributes := #[] }, { accessFlags := 26, nameIndex := 211, descriptorIndex := 178, attributes := #[] }, { accessFlags := 18, nameIndex := 11, descriptorIndex := 12, attributes := #[] }, { accessFlags := 18, nameIndex := 15, descriptorIndex := 16, attributes := #[] }])
  fields := #[{ name := "PRODUCT_TOKEN", type := (.object "java/util/regex/Pattern"), accessFlags := 26, slot := 0, constantValue := 0 }, { name := "PATH", type := (.object "java/lang/String"), accessFlags := 25, slot := 1, constantValue := 0 }, { name := "MAX_BYTES", type := .int, accessFlags := 26, slot := 2, constantValue := 0 }, { name := "READ_BYTES", type := .int, accessFlags := 25, slot := 3, constantValue := 0 }, { name := "ANY_CRAWLER", type := (.object "java/lang/String"), accessFlags := 26, slot := 4, constantValue := 0 }, { name := "WILDCARD", type := (.object "java/lang/String"), accessFlags := 26, slot := 5, constantValue := 0 }, { name := "END_ANCHOR", type := (.object "java/lang/String"), accessFlags := 26, slot := 6, constantValue := 0 }, { name := "BYTE_ORDER_MARK", type := (.object "java/lang/String"), accessFlags := 26, slot := 7, constantValue := 0 }, { name := "DECIMAL", type := (.object "java/util/regex/Pattern"), accessFlags := 26, slot := 8, constantValue := 0 }, { name := "NANO_DIGITS", type := .int, accessFlags := 26, slot := 9, constantValue := 0 }, { name := "rules", type := (.object "java/util/List"), accessFlags := 18, slot := 0, constantValue := 0 }, { name := "crawlDelay", type := (.object "java/time/Duration"), accessFlags := 18, slot := 1, constantValue := 0 }]
  methods := #[k9m0, k9m1, k9m2, k9m3]
  instanceTypes := #[(.object "java/util/List"), (.object "java/time/Duration")]
  staticTypes := #[(.object "java/util/regex/Pattern"), (.object "java/lang/String"), .int, .int, (.object "java/lang/String"), (.object "java/lang/String"), (.object "java/lang/String"), (.object "java/lang/String"), (.object "java/util/regex/Pattern"), .int]
  resolved := Array.replicate 238 none
  statics := none }

def pool10 : Array CpInfo := pool [(8, .class_ 10), (1, u "java/lang/Iterable"), (24, .class_ 36), (0, u "java/lang/Object")] 25

/-- java/lang/Iterable -/
def k10 : Class := { plain "java/lang/Iterable" (some 0) with
  accessFlags := 1537
  interfaces := #[]
  cf := some (fileOf pool10 8 #[] #[] 1537 35 #[] #[])
  fields := #[]
  methods := #[]
  instanceTypes := #[]
  staticTypes := #[]
  resolved := Array.replicate 62 none
  statics := none }

def pool11 : Array CpInfo := pool [(10, .class_ 12), (1, u "java/util/Collection"), (47, .class_ 61), (0, u "java/lang/Object"), (0, .class_ 63), (0, u "java/lang/Iterable")] 51

/-- java/util/Collection -/
def k11 : Class := { plain "java/util/Collection" (some 0) with
  accessFlags := 1537
  interfaces := #[10]
  cf := some (fileOf pool11 10 #[] #[] 1537 60 #[62] #[])
  fields := #[]
  methods := #[]
  instanceTypes := #[]
  staticTypes := #[]
  resolved := Array.replicate 115 none
  statics := none }

def pool12 : Array CpInfo := pool [(8, .class_ 10), (1, u "java/util/SequencedCollection"), (15, .class_ 27), (0, u "java/lang/Object"), (0, .class_ 29), (0, u "java/util/Collection")] 27

/-- java/util/SequencedCollection -/
def k12 : Class := { plain "java/util/SequencedCollection" (some 0) with
  accessFlags := 1537
  interfaces := #[11]
  cf := some (fileOf pool12 8 #[] #[] 1537 26 #[28] #[])
  fields := #[]
  methods := #[]
  instanceTypes := #[]
  staticTypes := #[]
  resolved := Array.replicate 57 none
  statics := none }

def pool13 : Array CpInfo := pool [(8, .class_ 10), (1, u "java/util/List"), (77, u "of"), (1, .fieldref 91 92), (0, .class_ 93), (0, .nameAndType 94 95), (0, u "java/util/ImmutableCollections"), (0, u "EMPTY_LIST"), (0, u "Ljava/util/ImmutableCollections$ListN;"), (7, .class_ 104), (0, u "java/lang/Object"), (14, u "()Ljava/util/List;"), (0, .class_ 121), (0, u "java/util/SequencedCollection"), (1, u "iterator"), (0, u "()Ljava/util/Iterator;")] 126

def k13m0 : Method := { name := "iterator", desc := "()Ljava/util/Iterator;", sig := { parameters := [], returnType := some (.object "java/util/Iterator") }, accessFlags := 1025, code := none }
def k13c1 : Code := { maxStack := 1, maxLocals := 0, code := jdk_40_method_36_code, exceptionTable := #[], attributes := #[] }
def k13m1 : Method := { name := "of", desc := "()Ljava/util/List;", sig := { parameters := [], returnType := some (.object "java/util/List") }, accessFlags := 9, code := some k13c1 }
/-- java/util/List -/
def k13 : Class := { plain "java/util/List" (some 0) with
  accessFlags := 1537
  interfaces := #[12]
  cf := some (fileOf pool13 8 #[] #[{ accessFlags := 1025, nameIndex := 123, descriptorIndex := 124, attributes := #[] }, { accessFlags := 9, nameIndex := 88, descriptorIndex := 119, attributes := #[] }] 1537 103 #[120] #[])
  fields := #[]
  methods := #[k13m0, k13m1]
  instanceTypes := #[]
  staticTypes := #[]
  resolved := Array.replicate 251 none
  statics := none }

def pool14 : Array CpInfo := pool [(2, .class_ 4), (1, u "java/lang/Object"), (0, u "<init>"), (0, u "()V"), (3, .class_ 11), (0, u "java/util/ImmutableCollections$List12"), (0, .class_ 13), (0, u "java/util/ImmutableCollections$ListN"), (3, u "Z"), (29, .class_ 49), (1, u "java/util/ImmutableCollections"), (0, u "$assertionsDisabled"), (5, u "[Ljava/lang/Object;"), (5, u "EMPTY_LIST"), (0, u "Ljava/util/ImmutableCollections$ListN;"), (8, u "EMPTY_LIST_NULLS"), (22, u "SALT32L"), (0, u "J"), (2, u "REVERSE"), (6, u "archivedObjects"), (2, u "EMPTY"), (0, u "Ljava/lang/Object;"), (0, .class_ 112), (0, u "java/util/ImmutableCollections$SetN"), (5, u "EMPTY_SET"), (0, u "Ljava/util/ImmutableCollections$SetN;"), (0, .class_ 121), (0, u "java/util/ImmutableCollections$MapN"), (3, u "EMPTY_MAP"), (0, u "Ljava/util/ImmutableCollections$MapN;"), (4, u "EXPAND_FACTOR"), (0, u "I"), (36, .class_ 170), (0, u "java/util/ImmutableCollections$MapN$MapNIterator"), (0, .class_ 172), (0, u "java/util/ImmutableCollections$MapN$1"), (0, .class_ 174), (0, u "java/util/ImmutableCollections$Map1"), (0, .class_ 176), (0, u "java/util/ImmutableCollections$AbstractImmutableMap"), (0, .class_ 178), (0, u "java/util/ImmutableCollections$SetN$SetNIterator"), (0, .class_ 180), (0, u "java/util/ImmutableCollections$Set12"), (0, .class_ 182), (0, u "java/util/ImmutableCollections$Set12$1"), (0, .class_ 184), (0, u "java/util/ImmutableCollections$AbstractImmutableSet"), (0, .class_ 186), (0, u "java/util/ImmutableCollections$SubList"), (0, .class_ 188), (0, u "java/util/ImmutableCollections$ListItr"), (0, .class_ 190), (0, u "java/util/ImmutableCollections$AbstractImmutableList"), (0, .class_ 192), (0, u "java/util/ImmutableCollections$AbstractImmutableCollection"), (0, .class_ 194), (0, u "java/util/ImmutableCollections$Access"), (0, .class_ 196), (0, u "java/util/ImmutableCollections$Access$1")] 16

def k14m0 : Method := { name := "<init>", desc := "()V", sig := { parameters := [], returnType := none }, accessFlags := 2, code := none }
/-- java/util/ImmutableCollections -/
def k14 : Class := { plain "java/util/ImmutableCollections" (some 0) with
  accessFlags := 32
  interfaces := #[]
  cf := some (fileOf pool14 47 #[.nestMembers #[120, 169, 171, 173, 175, 111, 177, 179, 181, 183, 12, 10, 185, 187, 189, 191, 193, 195]] #[{ accessFlags := 2, nameIndex := 5, descriptorIndex := 6, attributes := #[] }] 32 2 #[] #[{ accessFlags := 26, nameIndex := 95, descriptorIndex := 96, attributes := #[] }, { accessFlags := 26, nameIndex := 99, descriptorIndex := 17, attributes := #[] }, { accessFlags := 10, nameIndex := 106, descriptorIndex := 56, attributes := #[] }, { accessFlags := 26, nameIndex := 109, descriptorIndex := 110, attributes := #[] }, { accessFlags := 24, nameIndex := 62, descriptorIndex := 63, attributes := #[] }, { accessFlags := 24, nameIndex := 72, descriptorIndex := 63, attributes := #[] }, { accessFlags := 24, nameIndex := 118, descriptorIndex := 119, attributes := #[] }, { accessFlags := 24, nameIndex := 125, descriptorIndex := 126, attributes := #[] }, { accessFlags := 24, nameIndex := 131, descriptorIndex := 132, attributes := #[] }, { accessFlags := 4120, nameIndex := 50, descriptorIndex := 17, attributes := #[] }])
  fields := #[{ name := "SALT32L", type := .long, accessFlags := 26, slot := 0, constantValue := 0 }, { name := "REVERSE", type := .boolean, accessFlags := 26, slot := 1, constantValue := 0 }, { name := "archivedObjects", type := (.array (.object "java/lang/Object")), accessFlags := 10, slot := 2, constantValue := 0 }, { name := "EMPTY", type := (.object "java/lang/Object"), accessFlags := 26, slot := 3, constantValue := 0 }, { name := "EMPTY_LIST", type := (.object "java/util/ImmutableCollections$ListN"), accessFlags := 24, slot := 4, constantValue := 0 }, { name := "EMPTY_LIST_NULLS", type := (.object "java/util/ImmutableCollections$ListN"), accessFlags := 24, slot := 5, constantValue := 0 }, { name := "EMPTY_SET", type := (.object "java/util/ImmutableCollections$SetN"), accessFlags := 24, slot := 6, constantValue := 0 }, { name := "EMPTY_MAP", type := (.object "java/util/ImmutableCollections$MapN"), accessFlags := 24, slot := 7, constantValue := 0 }, { name := "EXPAND_FACTOR", type := .int, accessFlags := 24, slot := 8, constantValue := 0 }, { name := "$assertionsDisabled", type := .boolean, accessFlags := 4120, slot := 9, constantValue := 0 }]
  methods := #[k14m0]
  instanceTypes := #[]
  staticTypes := #[.long, .boolean, (.array (.object "java/lang/Object")), (.object "java/lang/Object"), (.object "java/util/ImmutableCollections$ListN"), (.object "java/util/ImmutableCollections$ListN"), (.object "java/util/ImmutableCollections$SetN"), (.object "java/util/ImmutableCollections$MapN"), .int, .boolean]
  resolved := Array.replicate 213 none
  statics := some 1 }

def pool15 : Array CpInfo := pool [(1, .class_ 2), (0, u "java/time/temporal/TemporalAmount"), (0, .class_ 4), (0, u "java/lang/Object")] 11

/-- java/time/temporal/TemporalAmount -/
def k15 : Class := { plain "java/time/temporal/TemporalAmount" (some 0) with
  accessFlags := 1537
  interfaces := #[]
  cf := some (fileOf pool15 1 #[] #[] 1537 3 #[] #[])
  fields := #[]
  methods := #[]
  instanceTypes := #[]
  staticTypes := #[]
  resolved := Array.replicate 16 none
  statics := none }

def pool16 : Array CpInfo := pool [(11, .class_ 13), (1, u "java/time/Duration"), (20, u "ZERO"), (0, u "Ljava/time/Duration;"), (13, .class_ 51), (1, u "java/time/temporal/TemporalAmount"), (13, u "()Z"), (13, .class_ 81), (1, u "java/time/Duration$Lazy"), (35, u "seconds"), (101, .class_ 220), (0, u "java/lang/Object"), (0, .fieldref 11 222), (0, .nameAndType 117 223), (0, u "J"), (0, .fieldref 11 225), (0, .nameAndType 226 227), (0, u "nanos"), (0, u "I"), (11, .class_ 241), (1, u "java/time/Duration$DurationUnits"), (27, .class_ 271), (1, u "java/time/Duration$1"), (91, u "BI_NANOS_PER_SECOND"), (0, u "Ljava/math/BigInteger;"), (120, .class_ 486), (0, u "java/lang/Comparable"), (0, .class_ 488), (0, u "java/io/Serializable"), (0, u "serialVersionUID"), (66, u "isZero")] 99

def k16c0 : Code := { maxStack := 4, maxLocals := 1, code := jdk_2316_method_21_code, exceptionTable := #[], attributes := #[] }
def k16m0 : Method := { name := "isZero", desc := "()Z", sig := { parameters := [], returnType := some .boolean }, accessFlags := 1, code := some k16c0 }
/-- java/time/Duration -/
def k16 : Class := { plain "java/time/Duration" (some 0) with
  accessFlags := 49
  interfaces := #[15, 3, 2]
  cf := some (fileOf pool16 11 #[.nestMembers #[269, 239, 79]] #[{ accessFlags := 1, nameIndex := 556, descriptorIndex := 65, attributes := #[] }] 49 219 #[49, 485, 487] #[{ accessFlags := 25, nameIndex := 34, descriptorIndex := 35, attributes := #[] }, { accessFlags := 26, nameIndex := 489, descriptorIndex := 223, attributes := #[] }, { accessFlags := 26, nameIndex := 363, descriptorIndex := 364, attributes := #[] }, { accessFlags := 18, nameIndex := 117, descriptorIndex := 223, attributes := #[] }, { accessFlags := 18, nameIndex := 226, descriptorIndex := 227, attributes := #[] }])
  fields := #[{ name := "ZERO", type := (.object "java/time/Duration"), accessFlags := 25, slot := 0, constantValue := 0 }, { name := "serialVersionUID", type := .long, accessFlags := 26, slot := 1, constantValue := 0 }, { name := "BI_NANOS_PER_SECOND", type := (.object "java/math/BigInteger"), accessFlags := 26, slot := 2, constantValue := 0 }, { name := "seconds", type := .long, accessFlags := 18, slot := 0, constantValue := 0 }, { name := "nanos", type := .int, accessFlags := 18, slot := 1, constantValue := 0 }]
  methods := #[k16m0]
  instanceTypes := #[.long, .int]
  staticTypes := #[(.object "java/time/Duration"), .long, (.object "java/math/BigInteger")]
  resolved := Array.replicate 656 none
  statics := some 2 }

def pool17 : Array CpInfo := pool [(2, .class_ 4), (1, u "java/lang/Object"), (0, u "<init>"), (0, u "()V"), (1, .class_ 10), (1, u "java/util/AbstractCollection"), (0, u "size"), (0, u "()I"), (64, .class_ 78), (0, u "java/util/Collection")] 81

def k17m0 : Method := { name := "<init>", desc := "()V", sig := { parameters := [], returnType := none }, accessFlags := 4, code := none }
def k17m1 : Method := { name := "size", desc := "()I", sig := { parameters := [], returnType := some .int }, accessFlags := 1025, code := none }
/-- java/util/AbstractCollection -/
def k17 : Class := { plain "java/util/AbstractCollection" (some 0) with
  accessFlags := 1057
  interfaces := #[11]
  cf := some (fileOf pool17 8 #[] #[{ accessFlags := 4, nameIndex := 5, descriptorIndex := 6, attributes := #[] }, { accessFlags := 1025, nameIndex := 11, descriptorIndex := 12, attributes := #[] }] 1057 2 #[77] #[])
  fields := #[]
  methods := #[k17m0, k17m1]
  instanceTypes := #[]
  staticTypes := #[]
  resolved := Array.replicate 160 none
  statics := none }

def pool18 : Array CpInfo := pool [(2, .class_ 4), (1, u "java/util/AbstractCollection"), (0, u "<init>"), (0, u "()V"), (1, .class_ 10), (1, u "java/util/ImmutableCollections"), (2, .class_ 14), (0, u "java/util/ImmutableCollections$AbstractImmutableCollection")] 41

def k18m0 : Method := { name := "<init>", desc := "()V", sig := { parameters := [], returnType := none }, accessFlags := 0, code := none }
/-- java/util/ImmutableCollections$AbstractImmutableCollection -/
def k18 : Class := { plain "java/util/ImmutableCollections$AbstractImmutableCollection" (some 17) with
  accessFlags := 1056
  interfaces := #[]
  cf := some (fileOf pool18 13 #[.nestHost 8] #[{ accessFlags := 0, nameIndex := 5, descriptorIndex := 6, attributes := #[] }] 1056 2 #[] #[])
  fields := #[]
  methods := #[k18m0]
  instanceTypes := #[]
  staticTypes := #[]
  resolved := Array.replicate 56 none
  statics := none }

def pool19 : Array CpInfo := pool [(1, .class_ 2), (0, u "java/util/RandomAccess"), (0, .class_ 4), (0, u "java/lang/Object")] 2

/-- java/util/RandomAccess -/
def k19 : Class := { plain "java/util/RandomAccess" (some 0) with
  accessFlags := 1537
  interfaces := #[]
  cf := some (fileOf pool19 1 #[] #[] 1537 3 #[] #[])
  fields := #[]
  methods := #[]
  instanceTypes := #[]
  staticTypes := #[]
  resolved := Array.replicate 7 none
  statics := none }

def pool20 : Array CpInfo := pool [(2, .class_ 4), (1, u "java/util/ImmutableCollections$AbstractImmutableCollection"), (0, u "<init>"), (0, u "()V"), (1, .class_ 10), (1, u "java/util/ImmutableCollections"), (2, .methodref 14 15), (0, .class_ 16), (0, .nameAndType 17 18), (0, u "java/util/ImmutableCollections$AbstractImmutableList"), (0, u "size"), (0, u "()I"), (42, .class_ 62), (0, u "java/util/ImmutableCollections$ListItr"), (0, .methodref 61 64), (0, .nameAndType 5 65), (0, u "(Ljava/util/List;I)V"), (11, .class_ 78), (0, u "java/util/List"), (2, u "iterator"), (0, u "()Ljava/util/Iterator;"), (41, .class_ 125), (0, u "java/util/RandomAccess")] 70

def k20m0 : Method := { name := "<init>", desc := "()V", sig := { parameters := [], returnType := none }, accessFlags := 0, code := none }
def k20c1 : Code := { maxStack := 4, maxLocals := 1, code := jdk_46_method_10_code, exceptionTable := #[], attributes := #[] }
def k20m1 : Method := { name := "iterator", desc := "()Ljava/util/Iterator;", sig := { parameters := [], returnType := some (.object "java/util/Iterator") }, accessFlags := 1, code := some k20c1 }
/-- java/util/ImmutableCollections$AbstractImmutableList -/
def k20 : Class := { plain "java/util/ImmutableCollections$AbstractImmutableList" (some 18) with
  accessFlags := 1056
  interfaces := #[13, 19]
  cf := some (fileOf pool20 14 #[.nestHost 8] #[{ accessFlags := 0, nameIndex := 5, descriptorIndex := 6, attributes := #[] }, { accessFlags := 1, nameIndex := 81, descriptorIndex := 82, attributes := #[] }] 1056 2 #[77, 124] #[])
  fields := #[]
  methods := #[k20m0, k20m1]
  instanceTypes := #[]
  staticTypes := #[]
  resolved := Array.replicate 196 none
  statics := none }

def pool21 : Array CpInfo := pool [(2, .class_ 4), (1, u "java/util/ImmutableCollections$AbstractImmutableList"), (2, .fieldref 8 9), (0, .class_ 10), (0, .nameAndType 11 12), (0, u "java/util/ImmutableCollections$ListN"), (0, u "elements"), (0, u "[Ljava/lang/Object;"), (2, u "allowNulls"), (0, u "Z"), (42, .class_ 60), (0, u "java/io/Serializable"), (16, u "size"), (0, u "()I"), (35, .class_ 115), (0, u "java/util/ImmutableCollections")] 3

def k21c0 : Code := { maxStack := 1, maxLocals := 1, code := jdk_45_method_3_code, exceptionTable := #[], attributes := #[] }
def k21m0 : Method := { name := "size", desc := "()I", sig := { parameters := [], returnType := some .int }, accessFlags := 1, code := some k21c0 }
/-- java/util/ImmutableCollections$ListN -/
def k21 : Class := { plain "java/util/ImmutableCollections$ListN" (some 20) with
  accessFlags := 48
  interfaces := #[2]
  cf := some (fileOf pool21 8 #[.nestHost 114] #[{ accessFlags := 1, nameIndex := 77, descriptorIndex := 78, attributes := #[] }] 48 2 #[59] #[{ accessFlags := 18, nameIndex := 11, descriptorIndex := 12, attributes := #[] }, { accessFlags := 18, nameIndex := 15, descriptorIndex := 16, attributes := #[] }])
  fields := #[{ name := "elements", type := (.array (.object "java/lang/Object")), accessFlags := 18, slot := 0, constantValue := 0 }, { name := "allowNulls", type := .boolean, accessFlags := 18, slot := 1, constantValue := 0 }]
  methods := #[k21m0]
  instanceTypes := #[(.array (.object "java/lang/Object")), .boolean]
  staticTypes := #[]
  resolved := Array.replicate 119 none
  statics := none }

def pool22 : Array CpInfo := pool [(16, .class_ 18), (1, u "java/util/Iterator"), (0, u "hasNext"), (0, u "()Z"), (10, .class_ 32), (0, u "java/lang/Object")] 20

def k22m0 : Method := { name := "hasNext", desc := "()Z", sig := { parameters := [], returnType := some .boolean }, accessFlags := 1025, code := none }
/-- java/util/Iterator -/
def k22 : Class := { plain "java/util/Iterator" (some 0) with
  accessFlags := 1537
  interfaces := #[]
  cf := some (fileOf pool22 16 #[] #[{ accessFlags := 1025, nameIndex := 19, descriptorIndex := 20, attributes := #[] }] 1537 31 #[] #[])
  fields := #[]
  methods := #[k22m0]
  instanceTypes := #[]
  staticTypes := #[]
  resolved := Array.replicate 53 none
  statics := none }

def pool23 : Array CpInfo := pool [(1, .class_ 2), (0, u "java/util/ListIterator"), (0, .class_ 4), (0, u "java/lang/Object"), (0, .class_ 6), (0, u "java/util/Iterator")] 20

/-- java/util/ListIterator -/
def k23 : Class := { plain "java/util/ListIterator" (some 0) with
  accessFlags := 1537
  interfaces := #[22]
  cf := some (fileOf pool23 1 #[] #[] 1537 3 #[5] #[])
  fields := #[]
  methods := #[]
  instanceTypes := #[]
  staticTypes := #[]
  resolved := Array.replicate 27 none
  statics := none }

def pool24 : Array CpInfo := pool [(1, .methodref 2 3), (0, .class_ 4), (0, .nameAndType 5 6), (0, u "java/lang/Object"), (0, u "<init>"), (0, u "()V"), (0, .fieldref 8 9), (0, .class_ 10), (0, .nameAndType 11 12), (0, u "java/util/ImmutableCollections$ListItr"), (0, u "list"), (0, u "Ljava/util/List;"), (0, .fieldref 8 14), (0, .nameAndType 15 16), (0, u "size"), (0, u "I"), (0, .fieldref 8 18), (0, .nameAndType 19 16), (0, u "cursor"), (0, .fieldref 8 21), (0, .nameAndType 22 23), (0, u "isListIterator"), (0, u "Z"), (12, .class_ 38), (1, u "java/util/ImmutableCollections"), (2, .class_ 42), (0, u "java/util/ListIterator"), (4, u "(Ljava/util/List;I)V"), (11, u "hasNext"), (0, u "()Z")] 25

def k24c0 : Code := { maxStack := 2, maxLocals := 3, code := jdk_53_method_1_code, exceptionTable := #[], attributes := #[] }
def k24m0 : Method := { name := "<init>", desc := "(Ljava/util/List;I)V", sig := { parameters := [(.object "java/util/List"), .int], returnType := none }, accessFlags := 0, code := some k24c0 }
def k24c1 : Code := { maxStack := 2, maxLocals := 1, code := jdk_53_method_3_code, exceptionTable := #[], attributes := #[] }
def k24m1 : Method := { name := "hasNext", desc := "()Z", sig := { parameters := [], returnType := some .boolean }, accessFlags := 1, code := some k24c1 }
/-- java/util/ImmutableCollections$ListItr -/
def k24 : Class := { plain "java/util/ImmutableCollections$ListItr" (some 0) with
  accessFlags := 48
  interfaces := #[23]
  cf := some (fileOf pool24 8 #[.nestHost 36] #[{ accessFlags := 0, nameIndex := 5, descriptorIndex := 47, attributes := #[] }, { accessFlags := 1, nameIndex := 59, descriptorIndex := 60, attributes := #[] }] 48 2 #[41] #[{ accessFlags := 18, nameIndex := 11, descriptorIndex := 12, attributes := #[] }, { accessFlags := 18, nameIndex := 15, descriptorIndex := 16, attributes := #[] }, { accessFlags := 18, nameIndex := 22, descriptorIndex := 23, attributes := #[] }, { accessFlags := 2, nameIndex := 19, descriptorIndex := 16, attributes := #[] }])
  fields := #[{ name := "list", type := (.object "java/util/List"), accessFlags := 18, slot := 0, constantValue := 0 }, { name := "size", type := .int, accessFlags := 18, slot := 1, constantValue := 0 }, { name := "isListIterator", type := .boolean, accessFlags := 18, slot := 2, constantValue := 0 }, { name := "cursor", type := .int, accessFlags := 2, slot := 3, constantValue := 0 }]
  methods := #[k24m0, k24m1]
  instanceTypes := #[(.object "java/util/List"), .int, .boolean, .int]
  staticTypes := #[]
  resolved := Array.replicate 86 none
  statics := none }

def pool25 : Array CpInfo := pool [(4, .class_ 6), (1, u "java/lang/Object"), (0, u "<init>"), (0, u "()V"), (5, .class_ 16), (1, u "java/lang/StringLatin1"), (73, u "canEncode"), (14, u "(C)Z"), (15, u "$assertionsDisabled"), (0, u "Z"), (98, .class_ 223), (1, u "java/lang/StringLatin1$LinesSpliterator"), (57, u "equals"), (0, u "([B[B)Z"), (97, u "toBytes"), (1, u "(C)[B"), (7, .class_ 391), (0, u "java/lang/StringLatin1$CharsSpliterator")] 3

def k25m0 : Method := { name := "<init>", desc := "()V", sig := { parameters := [], returnType := none }, accessFlags := 0, code := none }
def k25c1 : Code := { maxStack := 2, maxLocals := 1, code := jdk_43_method_3_code, exceptionTable := #[], attributes := #[] }
def k25m1 : Method := { name := "canEncode", desc := "(C)Z", sig := { parameters := [.char], returnType := some .boolean }, accessFlags := 9, code := some k25c1 }
def k25c2 : Code := { maxStack := 3, maxLocals := 3, code := jdk_43_method_13_code, exceptionTable := #[], attributes := #[] }
def k25m2 : Method := { name := "equals", desc := "([B[B)Z", sig := { parameters := [(.array .byte), (.array .byte)], returnType := some .boolean }, accessFlags := 9, code := some k25c2 }
def k25c3 : Code := { maxStack := 4, maxLocals := 1, code := jdk_43_method_46_code, exceptionTable := #[], attributes := #[] }
def k25m3 : Method := { name := "toBytes", desc := "(C)[B", sig := { parameters := [.char], returnType := some (.array .byte) }, accessFlags := 9, code := some k25c3 }
/-- java/lang/StringLatin1 -/
def k25 : Class := { plain "java/lang/StringLatin1" (some 0) with
  accessFlags := 48
  interfaces := #[]
  cf := some (fileOf pool25 14 #[.nestMembers #[390, 221]] #[{ accessFlags := 0, nameIndex := 7, descriptorIndex := 8, attributes := #[] }, { accessFlags := 9, nameIndex := 90, descriptorIndex := 105, attributes := #[] }, { accessFlags := 9, nameIndex := 281, descriptorIndex := 282, attributes := #[] }, { accessFlags := 9, nameIndex := 380, descriptorIndex := 382, attributes := #[] }] 48 4 #[] #[{ accessFlags := 4120, nameIndex := 121, descriptorIndex := 122, attributes := #[] }])
  fields := #[{ name := "$assertionsDisabled", type := .boolean, accessFlags := 4120, slot := 0, constantValue := 0 }]
  methods := #[k25m0, k25m1, k25m2, k25m3]
  instanceTypes := #[]
  staticTypes := #[.boolean]
  resolved := Array.replicate 395 none
  statics := none }

def pool26 : Array CpInfo := pool [(2, .class_ 4), (1, u "java/lang/Object"), (0, u "<init>"), (0, u "()V"), (17, .class_ 26), (1, u "jdk/internal/util/Preconditions"), (28, .class_ 56), (0, u "jdk/internal/util/Preconditions$4"), (57, .class_ 115), (0, u "jdk/internal/util/Preconditions$1"), (7, u "SIOOBE_FORMATTER"), (0, u "Ljava/util/function/BiFunction;"), (0, .class_ 126), (0, u "jdk/internal/util/Preconditions$2"), (3, u "AIOOBE_FORMATTER"), (0, .class_ 132), (0, u "jdk/internal/util/Preconditions$3"), (3, u "IOOBE_FORMATTER")] 57

def k26m0 : Method := { name := "<init>", desc := "()V", sig := { parameters := [], returnType := none }, accessFlags := 1, code := none }
/-- jdk/internal/util/Preconditions -/
def k26 : Class := { plain "jdk/internal/util/Preconditions" (some 0) with
  accessFlags := 33
  interfaces := #[]
  cf := some (fileOf pool26 24 #[.nestMembers #[55, 131, 125, 114]] #[{ accessFlags := 1, nameIndex := 5, descriptorIndex := 6, attributes := #[] }] 33 2 #[] #[{ accessFlags := 25, nameIndex := 123, descriptorIndex := 124, attributes := #[] }, { accessFlags := 25, nameIndex := 130, descriptorIndex := 124, attributes := #[] }, { accessFlags := 25, nameIndex := 136, descriptorIndex := 124, attributes := #[] }])
  fields := #[{ name := "SIOOBE_FORMATTER", type := (.object "java/util/function/BiFunction"), accessFlags := 25, slot := 0, constantValue := 0 }, { name := "AIOOBE_FORMATTER", type := (.object "java/util/function/BiFunction"), accessFlags := 25, slot := 1, constantValue := 0 }, { name := "IOOBE_FORMATTER", type := (.object "java/util/function/BiFunction"), accessFlags := 25, slot := 2, constantValue := 0 }]
  methods := #[k26m0]
  instanceTypes := #[]
  staticTypes := #[(.object "java/util/function/BiFunction"), (.object "java/util/function/BiFunction"), (.object "java/util/function/BiFunction")]
  resolved := Array.replicate 194 none
  statics := some 3 }

def pool27 : Array CpInfo := pool [(9, u "<init>"), (6, .class_ 18), (1, u "java/lang/Object"), (0, u "()V"), (1, .class_ 23), (1, u "jdk/internal/util/ArraysSupport"), (0, u "LOG2_ARRAY_LONG_INDEX_SCALE"), (0, u "I"), (2, u "U"), (0, u "Ljdk/internal/misc/Unsafe;"), (8, u "BIG_ENDIAN"), (0, u "Z"), (8, u "LOG2_BYTE_BIT_SIZE"), (4, u "LOG2_ARRAY_INT_INDEX_SCALE"), (54, u "JLA"), (0, u "Ljdk/internal/access/JavaLangAccess;"), (11, u "LOG2_ARRAY_BOOLEAN_INDEX_SCALE"), (9, u "LOG2_ARRAY_BYTE_INDEX_SCALE"), (5, u "LOG2_ARRAY_CHAR_INDEX_SCALE"), (5, u "LOG2_ARRAY_SHORT_INDEX_SCALE"), (18, u "LOG2_ARRAY_FLOAT_INDEX_SCALE"), (24, u "LOG2_ARRAY_DOUBLE_INDEX_SCALE"), (89, u "T_BOOLEAN"), (2, u "T_CHAR"), (1, u "T_FLOAT"), (1, u "T_DOUBLE"), (1, u "T_BYTE"), (1, u "T_SHORT"), (1, u "T_INT"), (1, u "T_LONG"), (1, u "SOFT_MAX_ARRAY_LENGTH")] 83

def k27m0 : Method := { name := "<init>", desc := "()V", sig := { parameters := [], returnType := none }, accessFlags := 2, code := none }
/-- jdk/internal/util/ArraysSupport -/
def k27 : Class := { plain "jdk/internal/util/ArraysSupport" (some 0) with
  accessFlags := 33
  interfaces := #[]
  cf := some (fileOf pool27 21 #[] #[{ accessFlags := 2, nameIndex := 9, descriptorIndex := 19, attributes := #[] }] 33 16 #[] #[{ accessFlags := 24, nameIndex := 28, descriptorIndex := 29, attributes := #[] }, { accessFlags := 26, nameIndex := 38, descriptorIndex := 39, attributes := #[] }, { accessFlags := 25, nameIndex := 121, descriptorIndex := 25, attributes := #[] }, { accessFlags := 25, nameIndex := 131, descriptorIndex := 25, attributes := #[] }, { accessFlags := 25, nameIndex := 137, descriptorIndex := 25, attributes := #[] }, { accessFlags := 25, nameIndex := 143, descriptorIndex := 25, attributes := #[] }, { accessFlags := 25, nameIndex := 53, descriptorIndex := 25, attributes := #[] }, { accessFlags := 25, nameIndex := 24, descriptorIndex := 25, attributes := #[] }, { accessFlags := 25, nameIndex := 162, descriptorIndex := 25, attributes := #[] }, { accessFlags := 25, nameIndex := 187, descriptorIndex := 25, attributes := #[] }, { accessFlags := 26, nameIndex := 48, descriptorIndex := 25, attributes := #[] }, { accessFlags := 25, nameIndex := 277, descriptorIndex := 25, attributes := #[] }, { accessFlags := 25, nameIndex := 280, descriptorIndex := 25, attributes := #[] }, { accessFlags := 25, nameIndex := 282, descriptorIndex := 25, attributes := #[] }, { accessFlags := 25, nameIndex := 284, descriptorIndex := 25, attributes := #[] }, { accessFlags := 25, nameIndex := 286, descriptorIndex := 25, attributes := #[] }, { accessFlags := 25, nameIndex := 288, descriptorIndex := 25, attributes := #[] }, { accessFlags := 25, nameIndex := 290, descriptorIndex := 25, attributes := #[] }, { accessFlags := 25, nameIndex := 292, descriptorIndex := 25, attributes := #[] }, { accessFlags := 26, nameIndex := 108, descriptorIndex := 109, attributes := #[] }, { accessFlags := 25, nameIndex := 294, descriptorIndex := 25, attributes := #[] }])
  fields := #[{ name := "U", type := (.object "jdk/internal/misc/Unsafe"), accessFlags := 24, slot := 0, constantValue := 0 }, { name := "BIG_ENDIAN", type := .boolean, accessFlags := 26, slot := 1, constantValue := 0 }, { name := "LOG2_ARRAY_BOOLEAN_INDEX_SCALE", type := .int, accessFlags := 25, slot := 2, constantValue := 0 }, { name := "LOG2_ARRAY_BYTE_INDEX_SCALE", type := .int, accessFlags := 25, slot := 3, constantValue := 0 }, { name := "LOG2_ARRAY_CHAR_INDEX_SCALE", type := .int, accessFlags := 25, slot := 4, constantValue := 0 }, { name := "LOG2_ARRAY_SHORT_INDEX_SCALE", type := .int, accessFlags := 25, slot := 5, constantValue := 0 }, { name := "LOG2_ARRAY_INT_INDEX_SCALE", type := .int, accessFlags := 25, slot := 6, constantValue := 0 }, { name := "LOG2_ARRAY_LONG_INDEX_SCALE", type := .int, accessFlags := 25, slot := 7, constantValue := 0 }, { name := "LOG2_ARRAY_FLOAT_INDEX_SCALE", type := .int, accessFlags := 25, slot := 8, constantValue := 0 }, { name := "LOG2_ARRAY_DOUBLE_INDEX_SCALE", type := .int, accessFlags := 25, slot := 9, constantValue := 0 }, { name := "LOG2_BYTE_BIT_SIZE", type := .int, accessFlags := 26, slot := 10, constantValue := 0 }, { name := "T_BOOLEAN", type := .int, accessFlags := 25, slot := 11, constantValue := 0 }, { name := "T_CHAR", type := .int, accessFlags := 25, slot := 12, constantValue := 0 }, { name := "T_FLOAT", type := .int, accessFlags := 25, slot := 13, constantValue := 0 }, { name := "T_DOUBLE", type := .int, accessFlags := 25, slot := 14, constantValue := 0 }, { name := "T_BYTE", type := .int, accessFlags := 25, slot := 15, constantValue := 0 }, { name := "T_SHORT", type := .int, accessFlags := 25, slot := 16, constantValue := 0 }, { name := "T_INT", type := .int, accessFlags := 25, slot := 17, constantValue := 0 }, { name := "T_LONG", type := .int, accessFlags := 25, slot := 18, constantValue := 0 }, { name := "JLA", type := (.object "jdk/internal/access/JavaLangAccess"), accessFlags := 26, slot := 19, constantValue := 0 }, { name := "SOFT_MAX_ARRAY_LENGTH", type := .int, accessFlags := 25, slot := 20, constantValue := 0 }]
  methods := #[k27m0]
  instanceTypes := #[]
  staticTypes := #[(.object "jdk/internal/misc/Unsafe"), .boolean, .int, .int, .int, .int, .int, .int, .int, .int, .int, .int, .int, .int, .int, .int, .int, .int, .int, (.object "jdk/internal/access/JavaLangAccess"), .int]
  resolved := Array.replicate 378 none
  statics := none }

def pool28 : Array CpInfo := pool [(1, u "java/lang/Cloneable"), (0, .class_ 1), (0, u "java/lang/Object"), (0, .class_ 3)] 3

/-- java/lang/Cloneable -/
def k28 : Class := { plain "java/lang/Cloneable" (some 0) with
  accessFlags := 1537
  interfaces := #[]
  cf := some (fileOf pool28 2 #[] #[] 1537 4 #[] #[])
  fields := #[]
  methods := #[]
  instanceTypes := #[]
  staticTypes := #[]
  resolved := Array.replicate 8 none
  statics := none }

/-- the primitive byte -/
def k29 : Class := { plain "byte" none with kind := .primitive 'B', accessFlags := 0x411 }
/-- [B -/
def k30 : Class := { plain "[B" (some 0) with kind := .array 29 .byte, interfaces := #[28, 2], accessFlags := 1041 }

/-- the primitive char -/
def k31 : Class := { plain "char" none with kind := .primitive 'C', accessFlags := 0x411 }
/-- [C -/
def k32 : Class := { plain "[C" (some 0) with kind := .array 31 .char, interfaces := #[28, 2], accessFlags := 1041 }

/-- the primitive int -/
def k33 : Class := { plain "int" none with kind := .primitive 'I', accessFlags := 0x411 }
/-- [I -/
def k34 : Class := { plain "[I" (some 0) with kind := .array 33 .int, interfaces := #[28, 2], accessFlags := 1041 }

/-- [Ljava/lang/Object; -/
def k35 : Class := { plain "[Ljava/lang/Object;" (some 0) with kind := .array 0 (.object "java/lang/Object"), interfaces := #[28, 2], accessFlags := 1041 }

def heap : Heap := #[{ cls := 7, slots := #[.long 0, .int 1, .null, .int 0, .null, .int 0, .int 0], vm := .statics 7 },
  { cls := 14, slots := #[.long 0, .int 0, .null, .null, .ref 5, .null, .null, .null, .int 0, .int 0], vm := .statics 14 },
  { cls := 16, slots := #[.ref 6, .long 0, .null], vm := .statics 16 },
  { cls := 26, slots := #[.null, .null, .null], vm := .statics 26 },
  { cls := 35, slots := #[], vm := .none },
  { cls := 21, slots := #[.ref 4, .int 0], vm := .none },
  { cls := 16, slots := #[.long 0, .int 0], vm := .none }]
def classes : Array Class := #[k0, k1, k2, k3, k4, k5, k6, k7, k8, k9, k10, k11, k12, k13, k14, k15, k16, k17, k18, k19, k20, k21, k22, k23, k24, k25, k26, k27, k28, k29, k30, k31, k32, k33, k34, k35]
def interned : List (Array UInt16 × Addr) := []
def slotsUsed : Nat := 27
def theMethod : MethodId := ⟨1, 1⟩
def args0 : Array Value := #[.int 5, .int 1, .int 2]
def aboutOver (below : List Frame) : State where
  vm := { classes := classes, interned := interned.toArray }
  heap := heap
  slotsUsed := slotsUsed
  threads := #[{ frames := .invoking theMethod args0 :: below }]
def below0 : List Frame := [.native { method := ⟨0, 0⟩, args := #[] }]
def about1 : State := aboutOver below0
def p0 : Program := .bare "" "" ""
def e0 : Env := launch0.env 0 0 0
theorem w_frames : about1.frames = Frame.invoking theMethod args0 :: below0 := rfl
set_option maxRecDepth 65536 in
theorem w_args : argsFit about1.vm theMethod args0 = true := by decide +kernel
set_option maxRecDepth 65536 in
theorem w_heap : heapFits about1 = true := by decide +kernel
set_option maxRecDepth 65536 in
theorem w_runnable : about1.curStatus? = some .runnable := by decide +kernel
set_option maxRecDepth 65536 in
theorem w_alone : about1.alone = true := by decide +kernel
set_option maxRecDepth 65536 in
theorem w_named : about1.methodNamed? x = some theMethod := by decide +kernel
set_option maxRecDepth 65536 in
theorem w_hears : about1.hears theMethod below0 = true := by decide +kernel
set_option maxRecDepth 65536 in
theorem w_ripe : about1.ripe theMethod args0 below0 = true := by decide +kernel
theorem w_running : about1.status = .running := rfl
set_option maxRecDepth 65536 in
theorem w_room : about1.hasRoom e0.platform room_1 = true :=
  launch0.hasRoom_least _ room_1 (by decide +kernel) (by decide +kernel) (by decide +kernel) (by decide +kernel) (by decide +kernel) (by decide +kernel)
theorem allAtoms_all (ts : List Jvm.Cond) (a : Array Jvm.Value) (st : Jvm.State) : (allAtoms ts).before a st = ts.all (fun c => c.before a st) := by
  induction ts with
  | nil => rfl
  | cons c t ih =>
    show (Jvm.Cond.and c (allAtoms t)).before a st = _
    rw [Jvm.Cond.before_and, ih, List.all_cons]
def words1 : List Jvm.Cond := Jvm.Cond.code x code maxLocals ret :: tables_1
/-- a 'code' word, met by the world's own term for the bytes: nothing is compared byte by byte -/
theorem code_word {y : MethodName} {bytes : ByteArray} {mx : Nat} {rt : Option FieldType} {a : Array Value} {s : State} {m : MethodId} {meth : Method} {c : Code} (h1 : s.methodNamed? y = some m) (h2 : s.vm.method? m = some meth) (h3 : meth.code = some c) (h4 : c.code = bytes)
    (h5 : (c.maxLocals == mx && c.exceptionTable.isEmpty && decide (c.maxStack ≤ mostOperands) && decide (meth.sig.returnType = rt) && !meth.locks && decide (parseMethodDescriptor y.desc = some meth.sig)) = true) : (Jvm.Cond.code y bytes mx rt).before a s = true := by
  simp only [Bool.and_eq_true, beq_iff_eq, Bool.not_eq_true', decide_eq_true_eq] at h5
  obtain ⟨⟨⟨⟨⟨g1, g2⟩, g3⟩, g4⟩, g5⟩, g6⟩ := h5
  simp [Cond.before, Cond.holds, Cond.value, h1, h2, h3, h4, g1, g2, g3, g4, g5, g6]
def isCode : Jvm.Cond → Bool
  | .code _ _ _ _ => true
  | _ => false
theorem all_split {L : List Jvm.Cond} {P : Jvm.Cond → Bool} (h1 : L.all (fun c => isCode c || P c) = true) (h2 : ∀ c ∈ L.filter isCode, P c = true) : L.all P = true := by
  refine List.all_eq_true.mpr fun c hc => ?_
  have h := List.all_eq_true.mp h1 c hc
  rcases Bool.eq_false_or_eq_true (isCode c) with hi | hi
  · exact h2 c (List.mem_filter.mpr ⟨hc, hi⟩)
  · simpa [hi] using h
set_option maxRecDepth 65536 in
theorem w_c0 : (Jvm.Cond.code x code maxLocals ret).before args0 about1 = true := code_word (m := ⟨1, 1⟩) (meth := k1m1) (c := k1c1) (by decide +kernel) rfl rfl rfl (by decide +kernel)
set_option maxRecDepth 65536 in
theorem w_c1 : (Jvm.Cond.code ({ cls := "com/example/structured_data_crawler/structureddatacrawler/crawl/RobotsRulesAllowAllPinLaw", name := "make", desc := "(ICCCCC)Ljava/lang/String;" } : Jvm.MethodName) method_3_code (7 : Nat) (Option.some (Jvm.ClassFile.FieldType.object "java/lang/String"))).before args0 about1 = true := code_word (m := ⟨1, 2⟩) (meth := k1m2) (c := k1c2) (by decide +kernel) rfl rfl rfl (by decide +kernel)
set_option maxRecDepth 65536 in
theorem w_c2 : (Jvm.Cond.code ({ cls := "java/lang/String", name := "<init>", desc := "([C)V" } : Jvm.MethodName) jdk_42_method_3_code (2 : Nat) (Option.none : Option Jvm.ClassFile.FieldType)).before args0 about1 = true := code_word (m := ⟨7, 1⟩) (meth := k7m1) (c := k7c1) (by decide +kernel) rfl rfl rfl (by decide +kernel)
set_option maxRecDepth 65536 in
theorem w_c3 : (Jvm.Cond.code ({ cls := "java/lang/String", name := "<init>", desc := "([CIILjava/lang/Void;)V" } : Jvm.MethodName) jdk_42_method_149_code (6 : Nat) (Option.none : Option Jvm.ClassFile.FieldType)).before args0 about1 = true := code_word (m := ⟨7, 4⟩) (meth := k7m4) (c := k7c4) (by decide +kernel) rfl rfl rfl (by decide +kernel)
set_option maxRecDepth 65536 in
theorem w_c4 : (Jvm.Cond.code ({ cls := "java/lang/Object", name := "<init>", desc := "()V" } : Jvm.MethodName) object_method_1_code (1 : Nat) (Option.none : Option Jvm.ClassFile.FieldType)).before args0 about1 = true := code_word (m := ⟨0, 0⟩) (meth := k0m0) (c := k0c0) (by decide +kernel) rfl rfl rfl (by decide +kernel)
set_option maxRecDepth 65536 in
theorem w_c5 : (Jvm.Cond.code ({ cls := "java/lang/StringUTF16", name := "compress", desc := "([CII)[B" } : Jvm.MethodName) jdk_52_method_16_code (6 : Nat) (Option.some (Jvm.ClassFile.FieldType.array Jvm.ClassFile.FieldType.byte))).before args0 about1 = true := code_word (m := ⟨8, 2⟩) (meth := k8m2) (c := k8c2) (by decide +kernel) rfl rfl rfl (by decide +kernel)
set_option maxRecDepth 65536 in
theorem w_c6 : (Jvm.Cond.code ({ cls := "java/lang/StringUTF16", name := "compress", desc := "([CI[BII)I" } : Jvm.MethodName) jdk_52_method_21_code (7 : Nat) (Option.some Jvm.ClassFile.FieldType.int)).before args0 about1 = true := code_word (m := ⟨8, 3⟩) (meth := k8m3) (c := k8c3) (by decide +kernel) rfl rfl rfl (by decide +kernel)
set_option maxRecDepth 65536 in
theorem w_c7 : (Jvm.Cond.code ({ cls := "java/lang/StringUTF16", name := "coderFromArrayLen", desc := "([BI)B" } : Jvm.MethodName) jdk_52_method_15_code (2 : Nat) (Option.some Jvm.ClassFile.FieldType.byte)).before args0 about1 = true := code_word (m := ⟨8, 1⟩) (meth := k8m1) (c := k8c1) (by decide +kernel) rfl rfl rfl (by decide +kernel)
set_option maxRecDepth 65536 in
theorem w_c8 : (Jvm.Cond.code ({ cls := "com/example/structured_data_crawler/structureddatacrawler/crawl/RobotsRules", name := "allowAll", desc := "()Lcom/example/structured_data_crawler/structureddatacrawler/crawl/RobotsRules;" } : Jvm.MethodName) prog_10_method_3_code (0 : Nat) (Option.some (Jvm.ClassFile.FieldType.object "com/example/structured_data_crawler/structureddatacrawler/crawl/RobotsRules"))).before args0 about1 = true := code_word (m := ⟨9, 1⟩) (meth := k9m1) (c := k9c1) (by decide +kernel) rfl rfl rfl (by decide +kernel)
set_option maxRecDepth 65536 in
theorem w_c9 : (Jvm.Cond.code ({ cls := "java/util/List", name := "of", desc := "()Ljava/util/List;" } : Jvm.MethodName) jdk_40_method_36_code (0 : Nat) (Option.some (Jvm.ClassFile.FieldType.object "java/util/List"))).before args0 about1 = true := code_word (m := ⟨13, 1⟩) (meth := k13m1) (c := k13c1) (by decide +kernel) rfl rfl rfl (by decide +kernel)
set_option maxRecDepth 65536 in
theorem w_c10 : (Jvm.Cond.code ({ cls := "com/example/structured_data_crawler/structureddatacrawler/crawl/RobotsRules", name := "<init>", desc := "(Ljava/util/List;Ljava/time/Duration;)V" } : Jvm.MethodName) prog_10_method_1_code (3 : Nat) (Option.none : Option Jvm.ClassFile.FieldType)).before args0 about1 = true := code_word (m := ⟨9, 0⟩) (meth := k9m0) (c := k9c0) (by decide +kernel) rfl rfl rfl (by decide +kernel)
set_option maxRecDepth 65536 in
theorem w_c11 : (Jvm.Cond.code ({ cls := "com/example/structured_data_crawler/structureddatacrawler/crawl/RobotsRules", name := "allows", desc := "(Ljava/lang/String;)Z" } : Jvm.MethodName) prog_10_method_7_code (5 : Nat) (Option.some Jvm.ClassFile.FieldType.boolean)).before args0 about1 = true := code_word (m := ⟨9, 2⟩) (meth := k9m2) (c := k9c2) (by decide +kernel) rfl rfl rfl (by decide +kernel)
set_option maxRecDepth 65536 in
theorem w_c12 : (Jvm.Cond.code ({ cls := "java/util/ImmutableCollections$AbstractImmutableList", name := "iterator", desc := "()Ljava/util/Iterator;" } : Jvm.MethodName) jdk_46_method_10_code (1 : Nat) (Option.some (Jvm.ClassFile.FieldType.object "java/util/Iterator"))).before args0 about1 = true := code_word (m := ⟨20, 1⟩) (meth := k20m1) (c := k20c1) (by decide +kernel) rfl rfl rfl (by decide +kernel)
set_option maxRecDepth 65536 in
theorem w_c13 : (Jvm.Cond.code ({ cls := "java/util/ImmutableCollections$ListN", name := "size", desc := "()I" } : Jvm.MethodName) jdk_45_method_3_code (1 : Nat) (Option.some Jvm.ClassFile.FieldType.int)).before args0 about1 = true := code_word (m := ⟨21, 0⟩) (meth := k21m0) (c := k21c0) (by decide +kernel) rfl rfl rfl (by decide +kernel)
set_option maxRecDepth 65536 in
theorem w_c14 : (Jvm.Cond.code ({ cls := "java/util/ImmutableCollections$ListItr", name := "<init>", desc := "(Ljava/util/List;I)V" } : Jvm.MethodName) jdk_53_method_1_code (3 : Nat) (Option.none : Option Jvm.ClassFile.FieldType)).before args0 about1 = true := code_word (m := ⟨24, 0⟩) (meth := k24m0) (c := k24c0) (by decide +kernel) rfl rfl rfl (by decide +kernel)
set_option maxRecDepth 65536 in
theorem w_c15 : (Jvm.Cond.code ({ cls := "java/util/ImmutableCollections$ListItr", name := "hasNext", desc := "()Z" } : Jvm.MethodName) jdk_53_method_3_code (1 : Nat) (Option.some Jvm.ClassFile.FieldType.boolean)).before args0 about1 = true := code_word (m := ⟨24, 1⟩) (meth := k24m1) (c := k24c1) (by decide +kernel) rfl rfl rfl (by decide +kernel)
set_option maxRecDepth 65536 in
theorem w_c16 : (Jvm.Cond.code ({ cls := "java/lang/String", name := "equals", desc := "(Ljava/lang/Object;)Z" } : Jvm.MethodName) jdk_42_method_66_code (3 : Nat) (Option.some Jvm.ClassFile.FieldType.boolean)).before args0 about1 = true := code_word (m := ⟨7, 2⟩) (meth := k7m2) (c := k7c2) (by decide +kernel) rfl rfl rfl (by decide +kernel)
set_option maxRecDepth 65536 in
theorem w_c17 : (Jvm.Cond.code ({ cls := "java/lang/StringLatin1", name := "equals", desc := "([B[B)Z" } : Jvm.MethodName) jdk_43_method_13_code (3 : Nat) (Option.some Jvm.ClassFile.FieldType.boolean)).before args0 about1 = true := code_word (m := ⟨25, 2⟩) (meth := k25m2) (c := k25c2) (by decide +kernel) rfl rfl rfl (by decide +kernel)
set_option maxRecDepth 65536 in
theorem w_c18 : (Jvm.Cond.code ({ cls := "com/example/structured_data_crawler/structureddatacrawler/crawl/RobotsRules", name := "crawlDelay", desc := "()Ljava/time/Duration;" } : Jvm.MethodName) prog_10_method_8_code (1 : Nat) (Option.some (Jvm.ClassFile.FieldType.object "java/time/Duration"))).before args0 about1 = true := code_word (m := ⟨9, 3⟩) (meth := k9m3) (c := k9c3) (by decide +kernel) rfl rfl rfl (by decide +kernel)
set_option maxRecDepth 65536 in
theorem w_c19 : (Jvm.Cond.code ({ cls := "java/time/Duration", name := "isZero", desc := "()Z" } : Jvm.MethodName) jdk_2316_method_21_code (1 : Nat) (Option.some Jvm.ClassFile.FieldType.boolean)).before args0 about1 = true := code_word (m := ⟨16, 0⟩) (meth := k16m0) (c := k16c0) (by decide +kernel) rfl rfl rfl (by decide +kernel)
set_option maxRecDepth 65536 in
theorem w_c20 : (Jvm.Cond.code ({ cls := "java/lang/String", name := "valueOf", desc := "(C)Ljava/lang/String;" } : Jvm.MethodName) jdk_42_method_139_code (1 : Nat) (Option.some (Jvm.ClassFile.FieldType.object "java/lang/String"))).before args0 about1 = true := code_word (m := ⟨7, 3⟩) (meth := k7m3) (c := k7c3) (by decide +kernel) rfl rfl rfl (by decide +kernel)
set_option maxRecDepth 65536 in
theorem w_c21 : (Jvm.Cond.code ({ cls := "java/lang/StringLatin1", name := "canEncode", desc := "(C)Z" } : Jvm.MethodName) jdk_43_method_3_code (1 : Nat) (Option.some Jvm.ClassFile.FieldType.boolean)).before args0 about1 = true := code_word (m := ⟨25, 1⟩) (meth := k25m1) (c := k25c1) (by decide +kernel) rfl rfl rfl (by decide +kernel)
set_option maxRecDepth 65536 in
theorem w_c22 : (Jvm.Cond.code ({ cls := "java/lang/StringLatin1", name := "toBytes", desc := "(C)[B" } : Jvm.MethodName) jdk_43_method_46_code (1 : Nat) (Option.some (Jvm.ClassFile.FieldType.array Jvm.ClassFile.FieldType.byte))).before args0 about1 = true := code_word (m := ⟨25, 3⟩) (meth := k25m3) (c := k25c3) (by decide +kernel) rfl rfl rfl (by decide +kernel)
set_option maxRecDepth 65536 in
theorem w_c23 : (Jvm.Cond.code ({ cls := "java/lang/String", name := "<init>", desc := "([BB)V" } : Jvm.MethodName) jdk_42_method_151_code (3 : Nat) (Option.none : Option Jvm.ClassFile.FieldType)).before args0 about1 = true := code_word (m := ⟨7, 5⟩) (meth := k7m5) (c := k7c5) (by decide +kernel) rfl rfl rfl (by decide +kernel)
def codes1 : List Jvm.Cond := [Jvm.Cond.code x code maxLocals ret, Jvm.Cond.code ({ cls := "com/example/structured_data_crawler/structureddatacrawler/crawl/RobotsRulesAllowAllPinLaw", name := "make", desc := "(ICCCCC)Ljava/lang/String;" } : Jvm.MethodName) method_3_code (7 : Nat) (Option.some (Jvm.ClassFile.FieldType.object "java/lang/String")), Jvm.Cond.code ({ cls := "java/lang/String", name := "<init>", desc := "([C)V" } : Jvm.MethodName) jdk_42_method_3_code (2 : Nat) (Option.none : Option Jvm.ClassFile.FieldType), Jvm.Cond.code ({ cls := "java/lang/String", name := "<init>", desc := "([CIILjava/lang/Void;)V" } : Jvm.MethodName) jdk_42_method_149_code (6 : Nat) (Option.none : Option Jvm.ClassFile.FieldType), Jvm.Cond.code ({ cls := "java/lang/Object", name := "<init>", desc := "()V" } : Jvm.MethodName) object_method_1_code (1 : Nat) (Option.none : Option Jvm.ClassFile.FieldType), Jvm.Cond.code ({ cls := "java/lang/StringUTF16", name := "compress", desc := "([CII)[B" } : Jvm.MethodName) jdk_52_method_16_code (6 : Nat) (Option.some (Jvm.ClassFile.FieldType.array Jvm.ClassFile.FieldType.byte)), Jvm.Cond.code ({ cls := "java/lang/StringUTF16", name := "compress", desc := "([CI[BII)I" } : Jvm.MethodName) jdk_52_method_21_code (7 : Nat) (Option.some Jvm.ClassFile.FieldType.int), Jvm.Cond.code ({ cls := "java/lang/StringUTF16", name := "coderFromArrayLen", desc := "([BI)B" } : Jvm.MethodName) jdk_52_method_15_code (2 : Nat) (Option.some Jvm.ClassFile.FieldType.byte), Jvm.Cond.code ({ cls := "com/example/structured_data_crawler/structureddatacrawler/crawl/RobotsRules", name := "allowAll", desc := "()Lcom/example/structured_data_crawler/structureddatacrawler/crawl/RobotsRules;" } : Jvm.MethodName) prog_10_method_3_code (0 : Nat) (Option.some (Jvm.ClassFile.FieldType.object "com/example/structured_data_crawler/structureddatacrawler/crawl/RobotsRules")), Jvm.Cond.code ({ cls := "java/util/List", name := "of", desc := "()Ljava/util/List;" } : Jvm.MethodName) jdk_40_method_36_code (0 : Nat) (Option.some (Jvm.ClassFile.FieldType.object "java/util/List")), Jvm.Cond.code ({ cls := "com/example/structured_data_crawler/structureddatacrawler/crawl/RobotsRules", name := "<init>", desc := "(Ljava/util/List;Ljava/time/Duration;)V" } : Jvm.MethodName) prog_10_method_1_code (3 : Nat) (Option.none : Option Jvm.ClassFile.FieldType), Jvm.Cond.code ({ cls := "com/example/structured_data_crawler/structureddatacrawler/crawl/RobotsRules", name := "allows", desc := "(Ljava/lang/String;)Z" } : Jvm.MethodName) prog_10_method_7_code (5 : Nat) (Option.some Jvm.ClassFile.FieldType.boolean), Jvm.Cond.code ({ cls := "java/util/ImmutableCollections$AbstractImmutableList", name := "iterator", desc := "()Ljava/util/Iterator;" } : Jvm.MethodName) jdk_46_method_10_code (1 : Nat) (Option.some (Jvm.ClassFile.FieldType.object "java/util/Iterator")), Jvm.Cond.code ({ cls := "java/util/ImmutableCollections$ListN", name := "size", desc := "()I" } : Jvm.MethodName) jdk_45_method_3_code (1 : Nat) (Option.some Jvm.ClassFile.FieldType.int), Jvm.Cond.code ({ cls := "java/util/ImmutableCollections$ListItr", name := "<init>", desc := "(Ljava/util/List;I)V" } : Jvm.MethodName) jdk_53_method_1_code (3 : Nat) (Option.none : Option Jvm.ClassFile.FieldType), Jvm.Cond.code ({ cls := "java/util/ImmutableCollections$ListItr", name := "hasNext", desc := "()Z" } : Jvm.MethodName) jdk_53_method_3_code (1 : Nat) (Option.some Jvm.ClassFile.FieldType.boolean), Jvm.Cond.code ({ cls := "java/lang/String", name := "equals", desc := "(Ljava/lang/Object;)Z" } : Jvm.MethodName) jdk_42_method_66_code (3 : Nat) (Option.some Jvm.ClassFile.FieldType.boolean), Jvm.Cond.code ({ cls := "java/lang/StringLatin1", name := "equals", desc := "([B[B)Z" } : Jvm.MethodName) jdk_43_method_13_code (3 : Nat) (Option.some Jvm.ClassFile.FieldType.boolean), Jvm.Cond.code ({ cls := "com/example/structured_data_crawler/structureddatacrawler/crawl/RobotsRules", name := "crawlDelay", desc := "()Ljava/time/Duration;" } : Jvm.MethodName) prog_10_method_8_code (1 : Nat) (Option.some (Jvm.ClassFile.FieldType.object "java/time/Duration")), Jvm.Cond.code ({ cls := "java/time/Duration", name := "isZero", desc := "()Z" } : Jvm.MethodName) jdk_2316_method_21_code (1 : Nat) (Option.some Jvm.ClassFile.FieldType.boolean), Jvm.Cond.code ({ cls := "java/lang/String", name := "valueOf", desc := "(C)Ljava/lang/String;" } : Jvm.MethodName) jdk_42_method_139_code (1 : Nat) (Option.some (Jvm.ClassFile.FieldType.object "java/lang/String")), Jvm.Cond.code ({ cls := "java/lang/StringLatin1", name := "canEncode", desc := "(C)Z" } : Jvm.MethodName) jdk_43_method_3_code (1 : Nat) (Option.some Jvm.ClassFile.FieldType.boolean), Jvm.Cond.code ({ cls := "java/lang/StringLatin1", name := "toBytes", desc := "(C)[B" } : Jvm.MethodName) jdk_43_method_46_code (1 : Nat) (Option.some (Jvm.ClassFile.FieldType.array Jvm.ClassFile.FieldType.byte)), Jvm.Cond.code ({ cls := "java/lang/String", name := "<init>", desc := "([BB)V" } : Jvm.MethodName) jdk_42_method_151_code (3 : Nat) (Option.none : Option Jvm.ClassFile.FieldType)]
set_option maxRecDepth 65536 in
theorem codes_eq : words1.filter isCode = codes1 := rfl
theorem w_codes : ∀ c ∈ words1.filter isCode, c.before args0 about1 = true := by
  rw [codes_eq]
  intro c hc
  simp only [codes1, List.mem_cons, List.not_mem_nil, or_false] at hc
  rcases hc with rfl | rfl | rfl | rfl | rfl | rfl | rfl | rfl | rfl | rfl | rfl | rfl | rfl | rfl | rfl | rfl | rfl | rfl | rfl | rfl | rfl | rfl | rfl | rfl
  · exact w_c0
  · exact w_c1
  · exact w_c2
  · exact w_c3
  · exact w_c4
  · exact w_c5
  · exact w_c6
  · exact w_c7
  · exact w_c8
  · exact w_c9
  · exact w_c10
  · exact w_c11
  · exact w_c12
  · exact w_c13
  · exact w_c14
  · exact w_c15
  · exact w_c16
  · exact w_c17
  · exact w_c18
  · exact w_c19
  · exact w_c20
  · exact w_c21
  · exact w_c22
  · exact w_c23
set_option maxRecDepth 65536 in
theorem w_t1 : (words1.take 24).all (fun c => isCode c || c.before args0 about1) = true := by decide +kernel
set_option maxRecDepth 65536 in
theorem w_t2 : ((words1.drop 24).take 24).all (fun c => isCode c || c.before args0 about1) = true := by decide +kernel
set_option maxRecDepth 65536 in
theorem w_t3 : (((words1.drop 24).drop 24).take 24).all (fun c => isCode c || c.before args0 about1) = true := by decide +kernel
set_option maxRecDepth 65536 in
theorem w_t4 : ((((words1.drop 24).drop 24).drop 24).take 24).all (fun c => isCode c || c.before args0 about1) = true := by decide +kernel
set_option maxRecDepth 65536 in
theorem w_t5 : (((((words1.drop 24).drop 24).drop 24).drop 24).take 24).all (fun c => isCode c || c.before args0 about1) = true := by decide +kernel
set_option maxRecDepth 65536 in
theorem w_t6 : ((((((words1.drop 24).drop 24).drop 24).drop 24).drop 24).take 24).all (fun c => isCode c || c.before args0 about1) = true := by decide +kernel
set_option maxRecDepth 65536 in
theorem w_t7 : ((((((words1.drop 24).drop 24).drop 24).drop 24).drop 24).drop 24).all (fun c => isCode c || c.before args0 about1) = true := by decide +kernel
theorem w_tables : (allAtoms (Jvm.Cond.code x code maxLocals ret :: tables_1)).before args0 about1 = true := by
  rw [allAtoms_all]
  show words1.all (fun c => c.before args0 about1) = true
  refine all_split ?_ w_codes
  rw [← List.take_append_drop 24 words1, List.all_append, w_t1, ← List.take_append_drop 24 (words1.drop 24), List.all_append, w_t2, ← List.take_append_drop 24 ((words1.drop 24).drop 24), List.all_append, w_t3, ← List.take_append_drop 24 (((words1.drop 24).drop 24).drop 24), List.all_append, w_t4, ← List.take_append_drop 24 ((((words1.drop 24).drop 24).drop 24).drop 24), List.all_append, w_t5, ← List.take_append_drop 24 (((((words1.drop 24).drop 24).drop 24).drop 24).drop 24), List.all_append, w_t6, w_t7]
  rfl
set_option maxRecDepth 65536 in
theorem w_rest : rest_1_c.before args0 about1 = true := by decide +kernel
set_option maxRecDepth 65536 in
theorem w_case : (Jvm.Cond.and given_1 narrow_1).before args0 about1 = true := by decide +kernel
set_option maxRecDepth 65536 in
theorem w_consts : constsHeld consts_1 about1 := Jvm.Lit.constsHeldB_iff.mp (by decide +kernel)
theorem w_applies : (headSpec (Jvm.Cond.code x code maxLocals ret :: tables_1) room_1).applies x e0.platform about1 = true :=
  (Spec.applies_iff w_frames).mpr ⟨w_running, w_runnable, w_alone, w_named, w_hears, w_ripe, w_room, w_tables⟩
theorem atStart : AtStart classFile x code maxLocals ret World_1 tables_1 room_1 Calls_1 rest_1 Pre_1 launch0 p0 e0 about1 theMethod args0 below0 :=
  ⟨lists_1, trivial, launch0.admits_env _ _ _, launch0.least_env, fairChoices_fair.cas, fairChoices_fair.clock, w_frames, w_args, w_heap, w_applies, ⟨w_consts, trivial⟩, w_rest, w_case⟩
end start1
theorem witness_1 : WitnessClaimed_1 := ⟨start1.p0, start1.e0, start1.about1, start1.theMethod, start1.args0, start1.below0, start1.atStart⟩
end Jvm.Pilot.@@N@@
