import JvmDerived
import JvmDerived.Pilot.@@N@@Statement
import JvmDerived.Pilot.@@N@@Code
set_option linter.unusedVariables false
set_option linter.unusedSimpArgs false
/- laws to paste: Road.backV, Road.eqW, Road.lenW, Road.chN (cut by pick.py; bodies as the Statement names them) -/
namespace Jvm.Pilot.@@N@@
namespace StrChars
open Jvm Sem ClassFile Op Lib Jvm.Stand Jvm.Free.XT Jvm.Free.ALB Jvm.Free.JM Jvm.Free
open Jvm.Lib.Cold (StaticIs)
/-- a char array whose places are chars -/
def Ch (a : Addr) (A : Cell) (U : State) : Prop := Arr .char a A U ∧ Typed .char A
theorem Ch.mv {a : Addr} {A : Cell} {U U' : State} (h : Ch a A U) (hal : U.vm.Alike U'.vm) (hh : U'.heap = U.heap) : Ch a A U' := ⟨h.1.mv hal hh, h.2⟩
theorem Ch.keep {a : Addr} {A : Cell} {U U' : State} (h : Ch a A U) (hal : U.vm.Alike U'.vm) (hk : U'.heap[a]? = some A) : Ch a A U' := ⟨h.1.keep hal hk, h.2⟩
/-- what place i of a char[]'s cell holds -/
def cv (A : Cell) (i : Nat) : Int32 := match A.slots[i]? with | some (.int x) => x | _ => 0
theorem Ch.get {a : Addr} {A : Cell} {U : State} (h : Ch a A U) {i : Nat} (hi : i < A.slots.size) : A.slots[i]? = some (.int (cv A i)) := by
  have e := Array.getElem?_eq_getElem hi
  have f := h.2 i _ e
  unfold cv; rw [e]
  generalize A.slots[i] = v at f
  cases v <;> simp [fits] at f ⊢
/-- the byte that i2b leaves of a char -/
def lo8 (x : Int32) : Int32 := x.toInt8.toInt32
theorem fits_lo8 (y : Int32) : fits .byte (.int (lo8 y)) = true := by
  have h1 := y.toInt8.le_toInt
  have h2 := y.toInt8.toInt_lt
  simp only [lo8, fits, Bool.and_eq_true, decide_eq_true_eq, Int32.le_iff_toInt_le, Int8.toInt_toInt32, show (-128 : Int32).toInt = -128 from by decide, show (127 : Int32).toInt = 127 from by decide]
  omega
/-- A' is A but that each place j of lo .. hi - 1 holds f j -/
def Laid (A A' : Cell) (lo hi : Nat) (f : Nat → Value) : Prop := A'.cls = A.cls ∧ A'.vm = A.vm ∧ A'.slots.size = A.slots.size ∧ ∀ i, A'.slots[i]? = if lo ≤ i ∧ i < hi then some (f i) else A.slots[i]?
theorem Laid.zero (A : Cell) (lo : Nat) (f : Nat → Value) : Laid A A lo (lo + 0) f := ⟨rfl, rfl, rfl, fun i => by rw [if_neg (by omega)]⟩
theorem Laid.step {A Ak : Cell} {lo k : Nat} {f : Nat → Value} {v : Value} (h : Laid A Ak lo k f) (hlo : lo ≤ k) (hk : k < Ak.slots.size) (hv : v = f k) : Laid A (Ak.setSlot k v) lo (k + 1) f := by
  refine ⟨h.1, h.2.1, by simpa [Cell.setSlot] using h.2.2.1, fun i => ?_⟩
  by_cases e : k = i
  · subst e; rw [Cell.slots_setSlot_self v hk, if_pos (by omega), hv]
  · rw [Cell.slots_setSlot_ne v e, h.2.2.2 i]
    by_cases q : lo ≤ i ∧ i < k
    · rw [if_pos q, if_pos (by omega)]
    · rw [if_neg q, if_neg (by omega)]
def U16 : String := "java/lang/StringUTF16"
namespace Cmp5
def yN : MethodName := ⟨"java/lang/StringUTF16", "compress", "([CI[BII)I"⟩
abbrev yB : ByteArray := jdk_52_method_21_code
theorem d0 : decode yB 0 = .ok (.iconst 0, 1) := by decide +kernel
theorem d1 : decode yB 1 = .ok (.istore 5, 2) := by decide +kernel
theorem d3 : decode yB 3 = .ok (.iload 5, 2) := by decide +kernel
theorem d5 : decode yB 5 = .ok (.iload 4, 2) := by decide +kernel
theorem d7 : decode yB 7 = .ok (.if_icmp (.ge) 37, 3) := by decide +kernel
theorem d10 : decode yB 10 = .ok (.aload_n 0, 1) := by decide +kernel
theorem d11 : decode yB 11 = .ok (.iload_n 1, 1) := by decide +kernel
theorem d12 : decode yB 12 = .ok (.caload, 1) := by decide +kernel
theorem d13 : decode yB 13 = .ok (.istore 6, 2) := by decide +kernel
theorem d15 : decode yB 15 = .ok (.iload 6, 2) := by decide +kernel
theorem d17 : decode yB 17 = .ok (.sipush 255, 3) := by decide +kernel
theorem d20 : decode yB 20 = .ok (.if_icmp (.le) 6, 3) := by decide +kernel
theorem d26 : decode yB 26 = .ok (.aload_n 2, 1) := by decide +kernel
theorem d27 : decode yB 27 = .ok (.iload_n 3, 1) := by decide +kernel
theorem d28 : decode yB 28 = .ok (.iload 6, 2) := by decide +kernel
theorem d30 : decode yB 30 = .ok (.i2b, 1) := by decide +kernel
theorem d31 : decode yB 31 = .ok (.bastore, 1) := by decide +kernel
theorem d32 : decode yB 32 = .ok (.iinc 1 1, 3) := by decide +kernel
theorem d35 : decode yB 35 = .ok (.iinc 3 1, 3) := by decide +kernel
theorem d38 : decode yB 38 = .ok (.iinc 5 1, 3) := by decide +kernel
theorem d41 : decode yB 41 = .ok (.goto (-38), 3) := by decide +kernel
theorem d44 : decode yB 44 = .ok (.iload 4, 2) := by decide +kernel
theorem d46 : decode yB 46 = .ok (.ireturn, 1) := by decide +kernel
def site : List Cond := []
def tab : Cond := tabOf yN yB 7 (some .int) site
def P (b : Addr) (A : Cell) (d : Addr) (B : Cell) (o q len : Nat) (args : Array Value) (s : State) : Prop := args = #[.ref b, .int (Int32.ofNat o), .ref d, .int (Int32.ofNat q), .int (Int32.ofNat len)] ∧ Ch b A s ∧ Arr .byte d B s ∧ b ≠ d ∧ o + len ≤ A.slots.size ∧ q + len ≤ B.slots.size ∧ ∀ i, i < len → ¬ 255 < cv A (o + i)
def E (b : Addr) (A : Cell) (d : Addr) (B : Cell) (o q len : Nat) (r : Option Value) (s u : State) : Prop := r = some (.int (Int32.ofNat len)) ∧ ∃ B', Put d B' s u ∧ Laid B B' q (q + len) (fun j => Value.int (lo8 (cv A (o + (j - q)))))
/-- no char of the range above 255: len; the places written hold each char's low byte -/
theorem law (l : Launch) (b : Addr) (A : Cell) (d : Addr) (B : Cell) (o q len : Nat) : Law l yN 5 5 0 0 yB 7 (some .int) site (P b A d B o q len) (E b A d B o q len) (copyLocs d q len) 0 0 := by
  refine Law.of_walk (plainFor_of_name (by decide +kernel)) (by decide +kernel) (by decide +kernel) (by decide) (fun _ _ h => by rw [h.1]; rfl) (fun _ U U' hal hh h => ⟨h.1, h.2.1.mv hal hh, h.2.2.1.mv hal hh, h.2.2.2⟩) (fun r U U' V V' h1 hal h2 h => ⟨h.1, h.2.elim fun B' q => ⟨B', q.1.mv h1 h2, q.2⟩⟩) ?_
  intro p e s m args below meth c s₁ X0 hexec hbytes hml hret hlk hnm hown hh0 W hP
  obtain ⟨rfl, hA, hB, hne, l1, l2, hp⟩ := hP
  have c1 : Steps p.tables e below (s₁.setTop (entryFrame m #[.ref b, .int (Int32.ofNat o), .ref d, .int (Int32.ofNat q), .int (Int32.ofNat len)] 7)) (s₁.setTop (mkF m 0 #[.val (.ref b), .val (.int (Int32.ofNat o)), .val (.ref d), .val (.int (Int32.ofNat q)), .val (.int (Int32.ofNat len)), .unset, .unset] [])) := entry rfl
  have hA0 := hA.1.mv X0.warmed.alike hh0
  have hB0 := hB.mv X0.warmed.alike hh0
  have a31 := hA.1.2.2.2
  have c2 : Steps p.tables e below (s₁.setTop (entryFrame m #[.ref b, .int (Int32.ofNat o), .ref d, .int (Int32.ofNat q), .int (Int32.ofNat len)] 7)) (s₁.setTop (mkF m 3 #[.val (.ref b), .val (.int (Int32.ofNat o)), .val (.ref d), .val (.int (Int32.ofNat q)), .val (.int (Int32.ofNat len)), .val (.int 0), .unset] [])) := c1.trans (by
    refine iconstV X0.here hexec rfl 0 (hb hbytes d0) (by decide) ?_
    refine XS.istore X0.here hexec rfl (hb hbytes d1) rfl rfl ?_
    exact Steps.refl _)
  have loop : ∀ (r i : Nat), i + r = len → ∀ (z : Slot), (z = .unset ∨ ∃ w, z = .val w ∧ w.category = 1) → ∀ (Tl : State) (Bk : Cell), Stand p l e { frames := 0, locals := 0, cells := 0, slots := 0 } s m #[.ref b, .int (Int32.ofNat o), .ref d, .int (Int32.ofNat q), .int (Int32.ofNat len)] below meth c Tl ([] ++ copyLocs d q i) 0 0 → Put d Bk s₁ Tl → Laid B Bk q (q + i) (fun j => Value.int (lo8 (cv A (o + (j - q))))) →
      Steps p.tables e below (s₁.setTop (entryFrame m #[.ref b, .int (Int32.ofNat o), .ref d, .int (Int32.ofNat q), .int (Int32.ofNat len)] 7)) (Tl.setTop (mkF m 3 #[.val (.ref b), .val (.int (Int32.ofNat (o + i))), .val (.ref d), .val (.int (Int32.ofNat (q + i))), .val (.int (Int32.ofNat len)), .val (.int (Int32.ofNat i)), z] [])) → ∃ (T' : State) (B' : Cell) (z' : Slot), Stand p l e { frames := 0, locals := 0, cells := 0, slots := 0 } s m #[.ref b, .int (Int32.ofNat o), .ref d, .int (Int32.ofNat q), .int (Int32.ofNat len)] below meth c T' ([] ++ copyLocs d q len) 0 0 ∧ Put d B' s₁ T' ∧ Laid B B' q (q + len) (fun j => Value.int (lo8 (cv A (o + (j - q))))) ∧
      Steps p.tables e below (s₁.setTop (entryFrame m #[.ref b, .int (Int32.ofNat o), .ref d, .int (Int32.ofNat q), .int (Int32.ofNat len)] 7)) (T'.setTop (mkF m 3 #[.val (.ref b), .val (.int (Int32.ofNat (o + len))), .val (.ref d), .val (.int (Int32.ofNat (q + len))), .val (.int (Int32.ofNat len)), .val (.int (Int32.ofNat len)), z'] [])) := by
    intro r
    induction r with
    | zero =>
      intro i hi z hz Tl Bk Xl pl fl cl
      have hil : i = len := by omega
      rw [hil] at Xl fl cl
      exact ⟨Tl, Bk, z, Xl, pl, fl, cl⟩
    | succ r ih =>
      intro i hi z hz Tl Bk Xl pl fl cl
      have all := X0.warmed.alike.symm.trans Xl.warmed.alike
      have hAl := hA0.keep all (pl.other hne hA0.1)
      have hBk := hB0.like all pl.1 fl.1 fl.2.1 fl.2.2.1
      have hlt : q + i < Bk.slots.size := by rw [fl.2.2.1]; omega
      have c3 : Steps p.tables e below (s₁.setTop (entryFrame m #[.ref b, .int (Int32.ofNat o), .ref d, .int (Int32.ofNat q), .int (Int32.ofNat len)] 7)) (Tl.setTop (mkF m 12 #[.val (.ref b), .val (.int (Int32.ofNat (o + i))), .val (.ref d), .val (.int (Int32.ofNat (q + i))), .val (.int (Int32.ofNat len)), .val (.int (Int32.ofNat i)), z] [.int (Int32.ofNat (o + i)), .ref b])) := cl.trans (by
        refine XS.iload Xl.here hexec rfl (hb hbytes d3) rfl ?_
        refine XS.iload Xl.here hexec rfl (hb hbytes d5) rfl ?_
        refine XS.icmpNo Xl.here hexec rfl (hb hbytes d7) rfl (ii_ge_f (lt32 (by omega) (by omega))) ?_
        refine XS.aloadN Xl.here hexec rfl (hb hbytes d10) rfl rfl ?_
        refine XS.iloadN Xl.here hexec rfl (hb hbytes d11) rfl ?_
        exact Steps.refl _)
      have c4 : Steps p.tables e below (s₁.setTop (entryFrame m #[.ref b, .int (Int32.ofNat o), .ref d, .int (Int32.ofNat q), .int (Int32.ofNat len)] 7)) (Tl.setTop (mkF m 13 #[.val (.ref b), .val (.int (Int32.ofNat (o + i))), .val (.ref d), .val (.int (Int32.ofNat (q + i))), .val (.int (Int32.ofNat len)), .val (.int (Int32.ofNat i)), z] [.int (cv A (o + i))])) := c3.trans (by
        refine Xl.aget hexec hAl rfl (hA.get (i := o + i) (by omega)) rfl rfl (hb hbytes d12) ?_
        exact Steps.refl _)
      have c5 : Steps p.tables e below (s₁.setTop (entryFrame m #[.ref b, .int (Int32.ofNat o), .ref d, .int (Int32.ofNat q), .int (Int32.ofNat len)] 7)) (Tl.setTop (mkF m 15 #[.val (.ref b), .val (.int (Int32.ofNat (o + i))), .val (.ref d), .val (.int (Int32.ofNat (q + i))), .val (.int (Int32.ofNat len)), .val (.int (Int32.ofNat i)), .val (.int (cv A (o + i)))] [])) := c4.trans (by
        refine XS.istoreS Xl.here hexec rfl (hb hbytes d13) rfl rfl hz ?_
        exact Steps.refl _)
      have c6 : Steps p.tables e below (s₁.setTop (entryFrame m #[.ref b, .int (Int32.ofNat o), .ref d, .int (Int32.ofNat q), .int (Int32.ofNat len)] 7)) (Tl.setTop (mkF m 31 #[.val (.ref b), .val (.int (Int32.ofNat (o + i))), .val (.ref d), .val (.int (Int32.ofNat (q + i))), .val (.int (Int32.ofNat len)), .val (.int (Int32.ofNat i)), .val (.int (cv A (o + i)))] [.int (lo8 (cv A (o + i))), .int (Int32.ofNat (q + i)), .ref d])) := c5.trans (by
        refine XS.iload Xl.here hexec rfl (hb hbytes d15) rfl ?_
        refine sipushV Xl.here hexec rfl 255 (hb hbytes d17) (by decide) ?_
        refine XS.icmpYes Xl.here hexec rfl (pc0 := 20) rfl (hb hbytes d20) rfl (ii_le_t (hp i (by omega))) (by decide) rfl ?_
        refine XS.aloadN Xl.here hexec rfl (hb hbytes d26) rfl rfl ?_
        refine XS.iloadN Xl.here hexec rfl (hb hbytes d27) rfl ?_
        refine XS.iload Xl.here hexec rfl (hb hbytes d28) rfl ?_
        refine i2b Xl.here hexec rfl (hb hbytes d30) rfl ?_
        exact Steps.refl _)
      obtain ⟨T7, X7, p7, st7⟩ := Xl.aput hexec hBk rfl hlt rfl (fits_lo8 (cv A (o + i))) (g := (mkF m 31 #[.val (.ref b), .val (.int (Int32.ofNat (o + i))), .val (.ref d), .val (.int (Int32.ofNat (q + i))), .val (.int (Int32.ofNat len)), .val (.int (Int32.ofNat i)), .val (.int (cv A (o + i)))] [.int (lo8 (cv A (o + i))), .int (Int32.ofNat (q + i)), .ref d])) rfl (rest := []) rfl (hb hbytes d31)
      have c8 : Steps p.tables e below (s₁.setTop (entryFrame m #[.ref b, .int (Int32.ofNat o), .ref d, .int (Int32.ofNat q), .int (Int32.ofNat len)] 7)) (T7.setTop (mkF m 32 #[.val (.ref b), .val (.int (Int32.ofNat (o + i))), .val (.ref d), .val (.int (Int32.ofNat (q + i))), .val (.int (Int32.ofNat len)), .val (.int (Int32.ofNat i)), .val (.int (cv A (o + i)))] [])) := c6.trans (st7 _ (Steps.refl _))
      have c9 : Steps p.tables e below (s₁.setTop (entryFrame m #[.ref b, .int (Int32.ofNat o), .ref d, .int (Int32.ofNat q), .int (Int32.ofNat len)] 7)) (T7.setTop (mkF m 3 #[.val (.ref b), .val (.int (Int32.ofNat (o + i) + 1)), .val (.ref d), .val (.int (Int32.ofNat (q + i) + 1)), .val (.int (Int32.ofNat len)), .val (.int (Int32.ofNat i + 1)), .val (.int (cv A (o + i)))] [])) := c8.trans (by
        refine iincV X7.here hexec rfl 1 (hb hbytes d32) (by decide) rfl rfl ?_
        refine iincV X7.here hexec rfl 1 (hb hbytes d35) (by decide) rfl rfl ?_
        refine iincV X7.here hexec rfl 1 (hb hbytes d38) (by decide) rfl rfl ?_
        refine XS.goto X7.here hexec rfl (pc0 := 41) rfl (hb hbytes d41) (by decide) rfl ?_
        exact Steps.refl _)
      have c10 : Steps p.tables e below (s₁.setTop (entryFrame m #[.ref b, .int (Int32.ofNat o), .ref d, .int (Int32.ofNat q), .int (Int32.ofNat len)] 7)) (T7.setTop (mkF m 3 #[.val (.ref b), .val (.int (Int32.ofNat (o + (i + 1)))), .val (.ref d), .val (.int (Int32.ofNat (q + (i + 1)))), .val (.int (Int32.ofNat len)), .val (.int (Int32.ofNat (i + 1))), .val (.int (cv A (o + i)))] [])) := by
        have := c9
        rw [succ32, succ32, succ32] at this
        exact this
      exact ih (i + 1) (by omega) _ (Or.inr ⟨_, rfl, rfl⟩) T7 _ (by rw [copyLocs_step, ← List.append_assoc]; exact X7) (pl.trans p7) (fl.step (by omega) hlt (by simp)) c10
  obtain ⟨T9, B9, z9, X9, p9, f9, g9⟩ := loop len 0 (by omega) .unset (Or.inl rfl) s₁ B (by simpa [copyLocs] using X0) ⟨hB0.1, fun _ _ => rfl, rfl⟩ (Laid.zero _ _ _) c2
  have c11 : Steps p.tables e below (s₁.setTop (entryFrame m #[.ref b, .int (Int32.ofNat o), .ref d, .int (Int32.ofNat q), .int (Int32.ofNat len)] 7)) (T9.setTop (mkF m 46 #[.val (.ref b), .val (.int (Int32.ofNat (o + len))), .val (.ref d), .val (.int (Int32.ofNat (q + len))), .val (.int (Int32.ofNat len)), .val (.int (Int32.ofNat len)), z9] [.int (Int32.ofNat len)])) := g9.trans (by
    refine XS.iload X9.here hexec rfl (hb hbytes d3) rfl ?_
    refine XS.iload X9.here hexec rfl (hb hbytes d5) rfl ?_
    refine XS.icmpYes X9.here hexec rfl (pc0 := 7) rfl (hb hbytes d7) rfl (ii_ge_t (nlt32 (by omega) (Nat.le_refl _))) (by decide) rfl ?_
    refine XS.iload X9.here hexec rfl (hb hbytes d44) rfl ?_
    exact Steps.refl _)
  exact ⟨T9, some (.int (Int32.ofNat len)), _, _, _, X9, by simp, rfl, rfl, (fun h => by cases h), ⟨rfl, B9, p9.from hh0, f9⟩, fun fs hl => c11.trans (X9.ireturnOut hexec hret rfl (Or.inl rfl) (hb hbytes d46) hl)⟩
end Cmp5
namespace Cmp3
def yN : MethodName := ⟨"java/lang/StringUTF16", "compress", "([CII)[B"⟩
abbrev yB : ByteArray := jdk_52_method_16_code
theorem d0 : decode yB 0 = .ok (.iload_n 2, 1) := by decide +kernel
theorem d1 : decode yB 1 = .ok (.newarray .byte, 2) := by decide +kernel
theorem d3 : decode yB 3 = .ok (.astore_n 3, 1) := by decide +kernel
theorem d4 : decode yB 4 = .ok (.aload_n 0, 1) := by decide +kernel
theorem d5 : decode yB 5 = .ok (.iload_n 1, 1) := by decide +kernel
theorem d6 : decode yB 6 = .ok (.aload_n 3, 1) := by decide +kernel
theorem d7 : decode yB 7 = .ok (.iconst 0, 1) := by decide +kernel
theorem d8 : decode yB 8 = .ok (.iload_n 2, 1) := by decide +kernel
theorem d9 : decode yB 9 = .ok (.invokestatic 115, 3) := by decide +kernel
theorem d12 : decode yB 12 = .ok (.istore 4, 2) := by decide +kernel
theorem d14 : decode yB 14 = .ok (.iload 4, 2) := by decide +kernel
theorem d16 : decode yB 16 = .ok (.iload_n 2, 1) := by decide +kernel
theorem d17 : decode yB 17 = .ok (.if_icmp (.eq) 40, 3) := by decide +kernel
theorem d57 : decode yB 57 = .ok (.aload_n 3, 1) := by decide +kernel
theorem d58 : decode yB 58 = .ok (.areturn, 1) := by decide +kernel
def site : List Cond := [.arrayClass .byte, Cmp5.tab] ++ staticW U16 115 Cmp5.yN
def tab : Cond := tabOf yN yB 6 (some (.array .byte)) site
def P (b : Addr) (A : Cell) (o len : Nat) (args : Array Value) (s : State) : Prop := args = #[.ref b, .int (Int32.ofNat o), .int (Int32.ofNat len)] ∧ Ch b A s ∧ o + len ≤ A.slots.size ∧ len ≤ 536870912 ∧ ∀ i, i < len → ¬ 255 < cv A (o + i)
def E (b : Addr) (A : Cell) (o len : Nat) (r : Option Value) (s u : State) : Prop := NewArr .byte "[B" len (fun j => .int (lo8 (cv A (o + j)))) r s u ∧ u.heap.size = s.heap.size + 1
/-- no char of the range above 255: a new byte[] of their low bytes -/
theorem law (l : Launch) (b : Addr) (A : Cell) (o len : Nat) : Law l yN 3 3 1 18 yB 6 (some (.array .byte)) site (P b A o len) (E b A o len) [] 1 len := by
  refine Law.of_walk (plainFor_of_name (by decide +kernel)) (by decide +kernel) (by decide +kernel) (by decide) (fun _ _ h => by rw [h.1]; rfl) (fun _ U U' hal hh h => ⟨h.1, h.2.1.mv hal hh, h.2.2⟩) (fun r U U' V V' h1 hal h2 h => ⟨NewArr.mv r U U' V V' h1 hal h2 h.1, by rw [h1, h2]; exact h.2⟩) ?_
  intro p e s m args below meth c s₁ X0 hexec hbytes hml hret hlk hnm hown hh0 W hP
  obtain ⟨rfl, hA, l1, l2, hp⟩ := hP
  have a31 := hA.1.2.2.2
  have c1 : Steps p.tables e below (s₁.setTop (entryFrame m #[.ref b, .int (Int32.ofNat o), .int (Int32.ofNat len)] 6)) (s₁.setTop (mkF m 0 #[.val (.ref b), .val (.int (Int32.ofNat o)), .val (.int (Int32.ofNat len)), .unset, .unset, .unset] [])) := entry rfl
  have c2 : Steps p.tables e below (s₁.setTop (entryFrame m #[.ref b, .int (Int32.ofNat o), .int (Int32.ofNat len)] 6)) (s₁.setTop (mkF m 1 #[.val (.ref b), .val (.int (Int32.ofNat o)), .val (.int (Int32.ofNat len)), .unset, .unset, .unset] [.int (Int32.ofNat len)])) := c1.trans (by
    refine XS.iloadN X0.here hexec rfl (hb hbytes d0) rfl ?_
    exact Steps.refl _)
  obtain ⟨T3, B3, X3, ba3, bs3, bv3, bh3, bf3, st3⟩ := X0.anew hexec (atype := .byte) (wk W (.arrayClass .byte)) rfl (by show len * 1 ≤ _; omega) (by omega) (g := (mkF m 1 #[.val (.ref b), .val (.int (Int32.ofNat o)), .val (.int (Int32.ofNat len)), .unset, .unset, .unset] [.int (Int32.ofNat len)])) rfl (hb hbytes d1) (rest := []) rfl (Nat.le_refl _) (by show 0 + len ≤ len; omega)
  rw [hh0] at ba3 st3
  have kp3 : XT.Kept s T3 := (XT.Kept.of_eq hh0).push bh3
  have hA3 := hA.keep X3.warmed.alike (kp3 _ _ hA.1.1)
  have hne : b ≠ s.heap.size := hA.1.ne
  have c4 : Steps p.tables e below (s₁.setTop (entryFrame m #[.ref b, .int (Int32.ofNat o), .int (Int32.ofNat len)] 6)) (T3.setTop (mkF m 3 #[.val (.ref b), .val (.int (Int32.ofNat o)), .val (.int (Int32.ofNat len)), .unset, .unset, .unset] [.ref s.heap.size])) := c2.trans (st3 _ (Steps.refl _))
  have c5 : Steps p.tables e below (s₁.setTop (entryFrame m #[.ref b, .int (Int32.ofNat o), .int (Int32.ofNat len)] 6)) (T3.setTop (mkF m 9 #[.val (.ref b), .val (.int (Int32.ofNat o)), .val (.int (Int32.ofNat len)), .val (.ref s.heap.size), .unset, .unset] [.int (Int32.ofNat len), .int 0, .ref s.heap.size, .int (Int32.ofNat o), .ref b])) := c4.trans (by
    refine XS.astoreN X3.here hexec rfl (hb hbytes d3) rfl rfl rfl ?_
    refine XS.aloadN X3.here hexec rfl (hb hbytes d4) rfl rfl ?_
    refine XS.iloadN X3.here hexec rfl (hb hbytes d5) rfl ?_
    refine XS.aloadN X3.here hexec rfl (hb hbytes d6) rfl rfl ?_
    refine iconstV X3.here hexec rfl 0 (hb hbytes d7) (by decide) ?_
    refine XS.iloadN X3.here hexec rfl (hb hbytes d8) rfl ?_
    exact Steps.refl _)
  obtain ⟨v6, T6, X6, E6, g6⟩ := X3.callS hexec (Cmp5.law l b A s.heap.size B3 o 0 len) hown (wks W (staticW U16 115 Cmp5.yN)) (wk W Cmp5.tab) (W := 0) (Nat.le_of_ble_eq_true rfl) (Nat.le_of_ble_eq_true rfl) (Nat.le_refl _) (by show 0 + len + 0 ≤ len; omega) (g := (mkF m 9 #[.val (.ref b), .val (.int (Int32.ofNat o)), .val (.int (Int32.ofNat len)), .val (.ref s.heap.size), .unset, .unset] [.int (Int32.ofNat len), .int (Int32.ofNat 0), .ref s.heap.size, .int (Int32.ofNat o), .ref b])) rfl (by rw [hml]; rfl) c5 (argsL := [.ref b, .int (Int32.ofNat o), .ref s.heap.size, .int (Int32.ofNat 0), .int (Int32.ofNat len)]) (rest := []) rfl rfl (by show 2 * 0 + 0 ≤ _; decide) (hb hbytes d9) (⟨rfl, hA3, ba3, hne, l1, by rw [bs3]; simp, hp⟩)
  obtain ⟨rfl, B6, p6, f6⟩ := E6
  have c7 : Steps p.tables e below (s₁.setTop (entryFrame m #[.ref b, .int (Int32.ofNat o), .int (Int32.ofNat len)] 6)) (T6.setTop (mkF m 12 #[.val (.ref b), .val (.int (Int32.ofNat o)), .val (.int (Int32.ofNat len)), .val (.ref s.heap.size), .unset, .unset] [.int (Int32.ofNat len)])) := g6
  have c8 : Steps p.tables e below (s₁.setTop (entryFrame m #[.ref b, .int (Int32.ofNat o), .int (Int32.ofNat len)] 6)) (T6.setTop (mkF m 58 #[.val (.ref b), .val (.int (Int32.ofNat o)), .val (.int (Int32.ofNat len)), .val (.ref s.heap.size), .val (.int (Int32.ofNat len)), .unset] [.ref s.heap.size])) := c7.trans (by
    refine XS.istore X6.here hexec rfl (hb hbytes d12) rfl rfl ?_
    refine XS.iload X6.here hexec rfl (hb hbytes d14) rfl ?_
    refine XS.iloadN X6.here hexec rfl (hb hbytes d16) rfl ?_
    refine XS.icmpYes X6.here hexec rfl (pc0 := 17) rfl (hb hbytes d17) rfl (ii_eq_t rfl) (by decide) rfl ?_
    refine XS.aloadN X6.here hexec rfl (hb hbytes d57) rfl rfl ?_
    exact Steps.refl _)
  have X8 := X6.wide (L' := []) (cells' := 1) (slots' := len) (fun x hx hlt => by
    simp only [List.nil_append, copyLocs, List.mem_map, List.mem_range] at hx
    obtain ⟨i, -, rfl⟩ := hx
    exact absurd hlt (Nat.lt_irrefl _)) (Nat.le_refl _) (by omega)
  exact ⟨T6, some (.ref s.heap.size), _, _, _, X8, rfl, rfl, rfl, (fun h => by cases h), ⟨⟨rfl, B6, ba3.like (X3.warmed.alike.symm.trans X6.warmed.alike) p6.1 f6.1 f6.2.1 f6.2.2.1, f6.2.1.trans bv3, by rw [X6.warmed.alike.findClass, f6.1]; exact bf3, by rw [f6.2.2.1, bs3]; simp, fun j hj => by rw [f6.2.2.2 j, if_pos (by omega)]; rfl, kp3.put p6 (Nat.le_refl _)⟩, by rw [p6.2.2, bh3, hh0]; simp⟩, fun fs hl => c8.trans (X8.areturnOut hexec rfl hret rfl (hb hbytes d58) hl)⟩
end Cmp3
namespace CodL
def yN : MethodName := ⟨"java/lang/StringUTF16", "coderFromArrayLen", "([BI)B"⟩
abbrev yB : ByteArray := jdk_52_method_15_code
theorem d0 : decode yB 0 = .ok (.iload_n 1, 1) := by decide +kernel
theorem d1 : decode yB 1 = .ok (.aload_n 0, 1) := by decide +kernel
theorem d2 : decode yB 2 = .ok (.arraylength, 1) := by decide +kernel
theorem d3 : decode yB 3 = .ok (.isub, 1) := by decide +kernel
theorem d4 : decode yB 4 = .ok (.bipush 31, 2) := by decide +kernel
theorem d6 : decode yB 6 = .ok (.iushr, 1) := by decide +kernel
theorem d7 : decode yB 7 = .ok (.i2b, 1) := by decide +kernel
theorem d8 : decode yB 8 = .ok (.ireturn, 1) := by decide +kernel
def site : List Cond := []
def tab : Cond := tabOf yN yB 2 (some .byte) site
def P (d : Addr) (B : Cell) (args : Array Value) (s : State) : Prop := args = #[.ref d, .int (Int32.ofNat B.slots.size)] ∧ Arr .byte d B s
def E (r : Option Value) (s u : State) : Prop := XT.PureE (some (.int 0)) r s u
/-- an array as long as the number of chars: LATIN1 -/
theorem law (l : Launch) (d : Addr) (B : Cell) : Law l yN 2 2 0 0 yB 2 (some .byte) site (P d B) E [] 0 0 := by
  refine Law.of_walk (plainFor_of_name (by decide +kernel)) (by decide +kernel) (by decide +kernel) (by decide) (fun _ _ h => by rw [h.1]; rfl) (fun _ U U' hal hh h => ⟨h.1, h.2.mv hal hh⟩) (fun r U U' V V' h1 hal h2 h => XT.PureE.mv r U U' V V' h1 hal h2 h) ?_
  intro p e s m args below meth c s₁ X0 hexec hbytes hml hret hlk hnm hown hh0 W hP
  obtain ⟨rfl, hB⟩ := hP
  have hB0 := hB.mv X0.warmed.alike hh0
  have c1 : Steps p.tables e below (s₁.setTop (entryFrame m #[.ref d, .int (Int32.ofNat B.slots.size)] 2)) (s₁.setTop (mkF m 0 #[.val (.ref d), .val (.int (Int32.ofNat B.slots.size))] [])) := entry rfl
  have c2 : Steps p.tables e below (s₁.setTop (entryFrame m #[.ref d, .int (Int32.ofNat B.slots.size)] 2)) (s₁.setTop (mkF m 2 #[.val (.ref d), .val (.int (Int32.ofNat B.slots.size))] [.ref d, .int (Int32.ofNat B.slots.size)])) := c1.trans (by
    refine XS.iloadN X0.here hexec rfl (hb hbytes d0) rfl ?_
    refine XS.aloadN X0.here hexec rfl (hb hbytes d1) rfl rfl ?_
    exact Steps.refl _)
  have c3 : Steps p.tables e below (s₁.setTop (entryFrame m #[.ref d, .int (Int32.ofNat B.slots.size)] 2)) (s₁.setTop (mkF m 8 #[.val (.ref d), .val (.int (Int32.ofNat B.slots.size))] [.int (lo8 (ushr (Int32.ofNat B.slots.size - Int32.ofNat B.slots.size) 31))])) := c2.trans (by
    refine X0.alen hexec hB0 rfl rfl (hb hbytes d2) ?_
    refine XS.isub X0.here hexec rfl (hb hbytes d3) rfl ?_
    refine bipushV X0.here hexec rfl 31 (hb hbytes d4) (by decide) ?_
    refine iushr X0.here hexec rfl (hb hbytes d6) rfl ?_
    refine i2b X0.here hexec rfl (hb hbytes d7) rfl ?_
    exact Steps.refl _)
  have e0 : lo8 (ushr (Int32.ofNat B.slots.size - Int32.ofNat B.slots.size) 31) = 0 := by rw [Int32.sub_self]; decide
  rw [e0] at c3
  exact ⟨s₁, some (.int 0), _, _, _, X0, rfl, rfl, rfl, (fun h => by cases h), ⟨rfl, hh0⟩, fun fs hl => c3.trans (X0.ireturnOut hexec hret rfl (Or.inr (Or.inr (Or.inl rfl))) (hb hbytes d8) hl)⟩
end CodL
/-- the String at a is Latin-1 over a new byte[] (the heap's one new cell): the low bytes of the len chars of A from o on; every cell but a is kept -/
def Got (a : Addr) (D : Cell) (fV fC : Field) (A : Cell) (o len : Nat) (r : Option Value) (s u : State) : Prop := r = none ∧ ∃ D' V : Cell, Blank "java/lang/String" a D' u ∧ Same D D' [fV.slot, fC.slot] ∧ D'.slots[fV.slot]? = some (.ref s.heap.size) ∧ D'.slots[fC.slot]? = some (.int 0) ∧ Arr .byte s.heap.size V u ∧ V.vm = .none ∧ u.vm.findClass "[B" = some V.cls ∧ V.slots.size = len ∧ (∀ j, j < len → V.slots[j]? = some (.int (lo8 (cv A (o + j))))) ∧ (∀ (y : Addr) (c : Cell), y ≠ a → s.heap[y]? = some c → u.heap[y]? = some c) ∧ u.heap.size = s.heap.size + 1
theorem Got.mv {a : Addr} {D A : Cell} {fV fC : Field} {o len : Nat} : ∀ r (U U' V V' : State), U'.heap = U.heap → V.vm.Alike V'.vm → V'.heap = V.heap → Got a D fV fC A o len r U V → Got a D fV fC A o len r U' V' :=
  fun r U U' V V' h1 hal h2 ⟨e0, D', X, a1, a2, a3, a4, a5, a6, a7, a8, a9, a10, a11⟩ => ⟨e0, D', X, a1.mv hal h2, a2, by rw [h1]; exact a3, a4, by rw [h1]; exact a5.mv hal h2, a6, by rw [hal.findClass]; exact a7, a8, a9, by rw [h1, h2]; exact a10, by rw [h1, h2]; exact a11⟩
namespace New4
def yN : MethodName := ⟨"java/lang/String", "<init>", "([CIILjava/lang/Void;)V"⟩
abbrev yB : ByteArray := jdk_42_method_149_code
theorem d0 : decode yB 0 = .ok (.aload_n 0, 1) := by decide +kernel
theorem d1 : decode yB 1 = .ok (.invokespecial 1, 3) := by decide +kernel
theorem d4 : decode yB 4 = .ok (.iload_n 3, 1) := by decide +kernel
theorem d5 : decode yB 5 = .ok (.ifCond (.ne) 22, 3) := by decide +kernel
theorem d27 : decode yB 27 = .ok (.getstatic 38, 3) := by decide +kernel
theorem d30 : decode yB 30 = .ok (.ifCond (.eq) 28, 3) := by decide +kernel
theorem d33 : decode yB 33 = .ok (.aload_n 1, 1) := by decide +kernel
theorem d34 : decode yB 34 = .ok (.iload_n 2, 1) := by decide +kernel
theorem d35 : decode yB 35 = .ok (.iload_n 3, 1) := by decide +kernel
theorem d36 : decode yB 36 = .ok (.invokestatic 177, 3) := by decide +kernel
theorem d39 : decode yB 39 = .ok (.astore 5, 2) := by decide +kernel
theorem d41 : decode yB 41 = .ok (.aload_n 0, 1) := by decide +kernel
theorem d42 : decode yB 42 = .ok (.aload 5, 2) := by decide +kernel
theorem d44 : decode yB 44 = .ok (.iload_n 3, 1) := by decide +kernel
theorem d45 : decode yB 45 = .ok (.invokestatic 47, 3) := by decide +kernel
theorem d48 : decode yB 48 = .ok (.putfield 15, 3) := by decide +kernel
theorem d51 : decode yB 51 = .ok (.aload_n 0, 1) := by decide +kernel
theorem d52 : decode yB 52 = .ok (.aload 5, 2) := by decide +kernel
theorem d54 : decode yB 54 = .ok (.putfield 9, 3) := by decide +kernel
theorem d57 : decode yB 57 = .ok (.return_, 1) := by decide +kernel
def site : List Cond := [.fieldLink "java/lang/String" 38 "java/lang/String" "COMPACT_STRINGS" "Z", Cmp3.tab, CodL.tab, .laysFinal "java/lang/String" "java/lang/String" "value" "[B", .fieldLink "java/lang/String" 9 "java/lang/String" "value" "[B", .laysFinal "java/lang/String" "java/lang/String" "coder" "B", .fieldLink "java/lang/String" 15 "java/lang/String" "coder" "B"] ++ objW "java/lang/String" 1 ++ staticW "java/lang/String" 177 Cmp3.yN ++ staticW "java/lang/String" 47 CodL.yN
def tab : Cond := tabOf yN yB 6 none site
def P (a : Addr) (D : Cell) (fV fC : Field) (b : Addr) (A : Cell) (z : Int32) (o len : Nat) (args : Array Value) (s : State) : Prop := args = #[.ref a, .ref b, .int (Int32.ofNat o), .int (Int32.ofNat len), .null] ∧ Blank "java/lang/String" a D s ∧ Found "java/lang/String" "value" "[B" fV s ∧ Found "java/lang/String" "coder" "B" fC s ∧ Ch b A s ∧ StaticIs s "java/lang/String" "COMPACT_STRINGS" "Z" (.int z) ∧ ¬ z = 0 ∧ 0 < len ∧ o + len ≤ A.slots.size ∧ len ≤ 536870912 ∧ ∀ i, i < len → ¬ 255 < cv A (o + i)
def E (a : Addr) (D : Cell) (fV fC : Field) (A : Cell) (o len : Nat) (r : Option Value) (s u : State) : Prop := Got a D fV fC A o len r s u
/-- len > 0, no char of the range above 255: a Latin-1 String of their low bytes -/
theorem law (l : Launch) (a : Addr) (D : Cell) (fV fC : Field) (b : Addr) (A : Cell) (z : Int32) (o len : Nat) : Law l yN 5 4 2 35 yB 6 none site (P a D fV fC b A z o len) (E a D fV fC A o len) [⟨a, fC.slot⟩, ⟨a, fV.slot⟩] 1 len := by
  refine Law.of_walk (plainFor_of_name (by decide +kernel)) (by decide +kernel) (by decide +kernel) (by decide) (fun _ _ h => by rw [h.1]; rfl) (fun _ U U' hal hh h => ⟨h.1, h.2.1.mv hal hh, h.2.2.1.al hal, h.2.2.2.1.al hal, h.2.2.2.2.1.mv hal hh, h.2.2.2.2.2.1.there hal hh, h.2.2.2.2.2.2⟩) (fun r U U' V V' h1 hal h2 h => Got.mv r U U' V V' h1 hal h2 h) ?_
  intro p e s m args below meth c s₁ X0 hexec hbytes hml hret hlk hnm hown hh0 W hP
  obtain ⟨rfl, hB, f1, f2, hA, s1, hz, l0, l1, l2, hp⟩ := hP
  have a31 := hA.1.2.2.2
  have c1 : Steps p.tables e below (s₁.setTop (entryFrame m #[.ref a, .ref b, .int (Int32.ofNat o), .int (Int32.ofNat len), .null] 6)) (s₁.setTop (mkF m 0 #[.val (.ref a), .val (.ref b), .val (.int (Int32.ofNat o)), .val (.int (Int32.ofNat len)), .val .null, .unset] [])) := entry rfl
  have c2 : Steps p.tables e below (s₁.setTop (entryFrame m #[.ref a, .ref b, .int (Int32.ofNat o), .int (Int32.ofNat len), .null] 6)) (s₁.setTop (mkF m 1 #[.val (.ref a), .val (.ref b), .val (.int (Int32.ofNat o)), .val (.int (Int32.ofNat len)), .val .null, .unset] [.ref a])) := c1.trans (by
    refine XS.aloadN X0.here hexec rfl (hb hbytes d0) rfl rfl ?_
    exact Steps.refl _)
  obtain ⟨T3, X3, q3, st3⟩ := X0.oinit hexec hown (wks W (objW "java/lang/String" 1)) (g := (mkF m 1 #[.val (.ref a), .val (.ref b), .val (.int (Int32.ofNat o)), .val (.int (Int32.ofNat len)), .val .null, .unset] [.ref a])) rfl (by rw [hml]; rfl) (rest := []) rfl (hb hbytes d1) (W := 0) (by show 2 * 0 + 0 ≤ _; decide) (Nat.le_of_ble_eq_true rfl) (Nat.le_of_ble_eq_true rfl)
  have hh3 := q3.trans hh0
  have c4 : Steps p.tables e below (s₁.setTop (entryFrame m #[.ref a, .ref b, .int (Int32.ofNat o), .int (Int32.ofNat len), .null] 6)) (T3.setTop (mkF m 27 #[.val (.ref a), .val (.ref b), .val (.int (Int32.ofNat o)), .val (.int (Int32.ofNat len)), .val .null, .unset] [])) := (c2.trans (st3 _ (Steps.refl _))).trans (by
    refine XS.iloadN X3.here hexec rfl (hb hbytes d4) rfl ?_
    refine XS.ifYes X3.here hexec rfl (pc0 := 5) rfl (hb hbytes d5) rfl (i0_ne_t (nz32 (by omega) l0)) (by decide) rfl ?_
    exact Steps.refl _)
  obtain ⟨T5, X5, q5, st5⟩ := X3.sget hexec hown (wk W (.fieldLink "java/lang/String" 38 "java/lang/String" "COMPACT_STRINGS" "Z")) s1 (fun _ _ h => by rw [hh3]; exact h) (g := (mkF m 27 #[.val (.ref a), .val (.ref b), .val (.int (Int32.ofNat o)), .val (.int (Int32.ofNat len)), .val .null, .unset] [])) rfl (hb hbytes d27)
  have hh5 := q5.trans hh3
  have c6 : Steps p.tables e below (s₁.setTop (entryFrame m #[.ref a, .ref b, .int (Int32.ofNat o), .int (Int32.ofNat len), .null] 6)) (T5.setTop (mkF m 30 #[.val (.ref a), .val (.ref b), .val (.int (Int32.ofNat o)), .val (.int (Int32.ofNat len)), .val .null, .unset] [.int z])) := c4.trans (st5 _ (Steps.refl _))
  have c7 : Steps p.tables e below (s₁.setTop (entryFrame m #[.ref a, .ref b, .int (Int32.ofNat o), .int (Int32.ofNat len), .null] 6)) (T5.setTop (mkF m 36 #[.val (.ref a), .val (.ref b), .val (.int (Int32.ofNat o)), .val (.int (Int32.ofNat len)), .val .null, .unset] [.int (Int32.ofNat len), .int (Int32.ofNat o), .ref b])) := c6.trans (by
    refine XS.ifNo X5.here hexec rfl (hb hbytes d30) rfl (i0_eq_f hz) ?_
    refine XS.aloadN X5.here hexec rfl (hb hbytes d33) rfl rfl ?_
    refine XS.iloadN X5.here hexec rfl (hb hbytes d34) rfl ?_
    refine XS.iloadN X5.here hexec rfl (hb hbytes d35) rfl ?_
    exact Steps.refl _)
  obtain ⟨v8, T8, X8, E8, g8⟩ := X5.callS hexec (Cmp3.law l b A o len) hown (wks W (staticW "java/lang/String" 177 Cmp3.yN)) (wk W Cmp3.tab) (W := 0) (Nat.le_of_ble_eq_true rfl) (Nat.le_of_ble_eq_true rfl) (Nat.le_refl _) (by show 0 + len ≤ len; omega) (g := (mkF m 36 #[.val (.ref a), .val (.ref b), .val (.int (Int32.ofNat o)), .val (.int (Int32.ofNat len)), .val .null, .unset] [.int (Int32.ofNat len), .int (Int32.ofNat o), .ref b])) rfl (by rw [hml]; rfl) c7 (argsL := [.ref b, .int (Int32.ofNat o), .int (Int32.ofNat len)]) (rest := []) rfl rfl (by show 2 * 0 + 0 ≤ _; decide) (hb hbytes d36) (⟨rfl, hA.mv X5.warmed.alike hh5, l1, l2, hp⟩)
  obtain ⟨e8, z8⟩ := E8
  obtain ⟨rfl, N, n1, n2, n3, n4, n5, n6⟩ := NewArr.mv _ T5 s _ _ hh5.symm (Vm.Alike.refl _) rfl e8
  rw [hh5] at z8
  have hB1 := hB.keep X8.warmed.alike (n6 _ _ hB.1)
  have hne : s.heap.size ≠ a := (Nat.ne_of_lt (Array.getElem?_eq_some_iff.mp hB.1).1).symm
  have c9 : Steps p.tables e below (s₁.setTop (entryFrame m #[.ref a, .ref b, .int (Int32.ofNat o), .int (Int32.ofNat len), .null] 6)) (T8.setTop (mkF m 39 #[.val (.ref a), .val (.ref b), .val (.int (Int32.ofNat o)), .val (.int (Int32.ofNat len)), .val .null, .unset] [.ref s.heap.size])) := g8
  have c10 : Steps p.tables e below (s₁.setTop (entryFrame m #[.ref a, .ref b, .int (Int32.ofNat o), .int (Int32.ofNat len), .null] 6)) (T8.setTop (mkF m 45 #[.val (.ref a), .val (.ref b), .val (.int (Int32.ofNat o)), .val (.int (Int32.ofNat len)), .val .null, .val (.ref s.heap.size)] [.int (Int32.ofNat N.slots.size), .ref s.heap.size, .ref a])) := by
    have hc : Steps p.tables e below (s₁.setTop (entryFrame m #[.ref a, .ref b, .int (Int32.ofNat o), .int (Int32.ofNat len), .null] 6)) (T8.setTop (mkF m 45 #[.val (.ref a), .val (.ref b), .val (.int (Int32.ofNat o)), .val (.int (Int32.ofNat len)), .val .null, .val (.ref s.heap.size)] [.int (Int32.ofNat len), .ref s.heap.size, .ref a])) := c9.trans (by
      refine XS.astore X8.here hexec rfl (hb hbytes d39) rfl rfl rfl ?_
      refine XS.aloadN X8.here hexec rfl (hb hbytes d41) rfl rfl ?_
      refine XS.aload X8.here hexec rfl (hb hbytes d42) rfl rfl ?_
      refine XS.iloadN X8.here hexec rfl (hb hbytes d44) rfl ?_
      exact Steps.refl _)
    rw [n4]; exact hc
  obtain ⟨v11, T11, X11, E11, g11⟩ := X8.callS hexec (CodL.law l s.heap.size N) hown (wks W (staticW "java/lang/String" 47 CodL.yN)) (wk W CodL.tab) (W := 1) (Nat.le_of_ble_eq_true rfl) (Nat.le_of_ble_eq_true rfl) (Nat.le_refl _) (by show 0 + len + 0 ≤ len; omega) (g := (mkF m 45 #[.val (.ref a), .val (.ref b), .val (.int (Int32.ofNat o)), .val (.int (Int32.ofNat len)), .val .null, .val (.ref s.heap.size)] [.int (Int32.ofNat N.slots.size), .ref s.heap.size, .ref a])) rfl (by rw [hml]; rfl) c10 (argsL := [.ref s.heap.size, .int (Int32.ofNat N.slots.size)]) (rest := [.ref a]) rfl rfl (by show 2 * 0 + (1 + 0) ≤ _; decide) (hb hbytes d45) (⟨rfl, n1⟩)
  obtain ⟨rfl, q11⟩ := E11
  have hB11 := hB1.mv (X8.warmed.alike.symm.trans X11.warmed.alike) q11
  have c12 : Steps p.tables e below (s₁.setTop (entryFrame m #[.ref a, .ref b, .int (Int32.ofNat o), .int (Int32.ofNat len), .null] 6)) (T11.setTop (mkF m 48 #[.val (.ref a), .val (.ref b), .val (.int (Int32.ofNat o)), .val (.int (Int32.ofNat len)), .val .null, .val (.ref s.heap.size)] [.int 0, .ref a])) := g11
  obtain ⟨T13, X13, p13, bl13, sl13, st13⟩ := X11.finit hexec hown (wk W (.fieldLink "java/lang/String" 15 "java/lang/String" "coder" "B")) (Or.inr ⟨_, (wk W (.laysFinal "java/lang/String" "java/lang/String" "coder" "B"))⟩) (Or.inl ⟨rfl, hnm⟩) f2 (Or.inl rfl) hB11 (t := .byte) (by decide +kernel) rfl (g := (mkF m 48 #[.val (.ref a), .val (.ref b), .val (.int (Int32.ofNat o)), .val (.int (Int32.ofNat len)), .val .null, .val (.ref s.heap.size)] [.int 0, .ref a])) rfl (rest := []) rfl (hb hbytes d48)
  have c14 : Steps p.tables e below (s₁.setTop (entryFrame m #[.ref a, .ref b, .int (Int32.ofNat o), .int (Int32.ofNat len), .null] 6)) (T13.setTop (mkF m 54 #[.val (.ref a), .val (.ref b), .val (.int (Int32.ofNat o)), .val (.int (Int32.ofNat len)), .val .null, .val (.ref s.heap.size)] [.ref s.heap.size, .ref a])) := (c12.trans (st13 _ (Steps.refl _))).trans (by
    refine XS.aloadN X13.here hexec rfl (hb hbytes d51) rfl rfl ?_
    refine XS.aload X13.here hexec rfl (hb hbytes d52) rfl rfl ?_
    exact Steps.refl _)
  obtain ⟨T15, X15, p15, bl15, sl15, st15⟩ := X13.finit hexec hown (wk W (.fieldLink "java/lang/String" 9 "java/lang/String" "value" "[B")) (Or.inr ⟨_, (wk W (.laysFinal "java/lang/String" "java/lang/String" "value" "[B"))⟩) (Or.inl ⟨rfl, hnm⟩) f1 (Or.inl rfl) bl13 (t := (.array .byte)) (by decide +kernel) rfl (g := (mkF m 54 #[.val (.ref a), .val (.ref b), .val (.int (Int32.ofNat o)), .val (.int (Int32.ofNat len)), .val .null, .val (.ref s.heap.size)] [.ref s.heap.size, .ref a])) rfl (rest := []) rfl (hb hbytes d54)
  have c16 : Steps p.tables e below (s₁.setTop (entryFrame m #[.ref a, .ref b, .int (Int32.ofNat o), .int (Int32.ofNat len), .null] 6)) (T15.setTop (mkF m 57 #[.val (.ref a), .val (.ref b), .val (.int (Int32.ofNat o)), .val (.int (Int32.ofNat len)), .val .null, .val (.ref s.heap.size)] [])) := c14.trans (st15 _ (Steps.refl _))
  have ap := apart (Or.inr ⟨_, (wk W (.laysFinal "java/lang/String" "java/lang/String" "value" "[B"))⟩) (Or.inr ⟨_, (wk W (.laysFinal "java/lang/String" "java/lang/String" "coder" "B"))⟩) f1 f2 (t₁ := .array .byte) (t₂ := .byte) (by decide +kernel) (by decide +kernel) (by decide)
  have al := X8.warmed.alike.symm.trans X15.warmed.alike
  have n7 : T11.heap[s.heap.size]? = some N := by rw [q11]; exact n1.1
  exact ⟨T15, none, _, _, _, X15, by simp, rfl, by omega, (fun _ => rfl), ⟨rfl, _, N, bl15, ((Same.refl D _).set _ (by simp)).set _ (by simp), sl15, (Cell.slots_setSlot_ne _ ap).trans sl13, n1.keep al (p15.other hne (p13.other hne n7)), n2, by rw [al.findClass]; exact n3, n4, n5, fun y c h1 h2 => p15.other h1 (p13.other h1 (by rw [q11]; exact n6 y c h2)), by rw [p15.2.2, p13.2.2, q11]; exact z8⟩, fun fs hl => c16.trans (X15.returnOut hexec hret (hb hbytes d57) hl)⟩
end New4
namespace New1
def yN : MethodName := ⟨"java/lang/String", "<init>", "([C)V"⟩
abbrev yB : ByteArray := jdk_42_method_3_code
theorem d0 : decode yB 0 = .ok (.aload_n 0, 1) := by decide +kernel
theorem d1 : decode yB 1 = .ok (.aload_n 1, 1) := by decide +kernel
theorem d2 : decode yB 2 = .ok (.iconst 0, 1) := by decide +kernel
theorem d3 : decode yB 3 = .ok (.aload_n 1, 1) := by decide +kernel
theorem d4 : decode yB 4 = .ok (.arraylength, 1) := by decide +kernel
theorem d5 : decode yB 5 = .ok (.aconst_null, 1) := by decide +kernel
theorem d6 : decode yB 6 = .ok (.invokespecial 27, 3) := by decide +kernel
theorem d9 : decode yB 9 = .ok (.return_, 1) := by decide +kernel
def site : List Cond := [New4.tab] ++ initW "java/lang/String" 27 New4.yN
def tab : Cond := tabOf yN yB 2 none site
def P (a : Addr) (D : Cell) (fV fC : Field) (b : Addr) (A : Cell) (z : Int32) (args : Array Value) (s : State) : Prop := args = #[.ref a, .ref b] ∧ Blank "java/lang/String" a D s ∧ Found "java/lang/String" "value" "[B" fV s ∧ Found "java/lang/String" "coder" "B" fC s ∧ Ch b A s ∧ StaticIs s "java/lang/String" "COMPACT_STRINGS" "Z" (.int z) ∧ ¬ z = 0 ∧ 0 < A.slots.size ∧ A.slots.size ≤ 536870912 ∧ ∀ i, i < A.slots.size → ¬ 255 < cv A i
def E (a : Addr) (D : Cell) (fV fC : Field) (A : Cell) (r : Option Value) (s u : State) : Prop := Got a D fV fC A 0 A.slots.size r s u
/-- new String(chars), not empty, no char above 255: a Latin-1 String of their low bytes -/
theorem law (l : Launch) (a : Addr) (D : Cell) (fV fC : Field) (b : Addr) (A : Cell) (z : Int32) : Law l yN 2 1 3 52 yB 2 none site (P a D fV fC b A z) (E a D fV fC A) [⟨a, fC.slot⟩, ⟨a, fV.slot⟩] 1 A.slots.size := by
  refine Law.of_walk (plainFor_of_name (by decide +kernel)) (by decide +kernel) (by decide +kernel) (by decide) (fun _ _ h => by rw [h.1]; rfl) (fun _ U U' hal hh h => ⟨h.1, h.2.1.mv hal hh, h.2.2.1.al hal, h.2.2.2.1.al hal, h.2.2.2.2.1.mv hal hh, h.2.2.2.2.2.1.there hal hh, h.2.2.2.2.2.2⟩) (fun r U U' V V' h1 hal h2 h => Got.mv r U U' V V' h1 hal h2 h) ?_
  intro p e s m args below meth c s₁ X0 hexec hbytes hml hret hlk hnm hown hh0 W hP
  obtain ⟨rfl, hB, f1, f2, hA, s1, hz, l0, l2, hp⟩ := hP
  have c1 : Steps p.tables e below (s₁.setTop (entryFrame m #[.ref a, .ref b] 2)) (s₁.setTop (mkF m 0 #[.val (.ref a), .val (.ref b)] [])) := entry rfl
  have c2 : Steps p.tables e below (s₁.setTop (entryFrame m #[.ref a, .ref b] 2)) (s₁.setTop (mkF m 6 #[.val (.ref a), .val (.ref b)] [.null, .int (Int32.ofNat A.slots.size), .int 0, .ref b, .ref a])) := c1.trans (by
    refine XS.aloadN X0.here hexec rfl (hb hbytes d0) rfl rfl ?_
    refine XS.aloadN X0.here hexec rfl (hb hbytes d1) rfl rfl ?_
    refine iconstV X0.here hexec rfl 0 (hb hbytes d2) (by decide) ?_
    refine XS.aloadN X0.here hexec rfl (hb hbytes d3) rfl rfl ?_
    refine X0.alen hexec (hA.1.mv X0.warmed.alike hh0) rfl rfl (hb hbytes d4) ?_
    refine XS.aconstNull X0.here hexec rfl (hb hbytes d5) ?_
    exact Steps.refl _)
  obtain ⟨v3, T3, X3, E3, g3⟩ := X0.callN hexec (New4.law l a D fV fC b A z 0 A.slots.size) rfl hown (wks W (initW "java/lang/String" 27 New4.yN)) (W New4.tab (by simp only [site, List.mem_cons, List.mem_append, true_or, or_true])) (W := 0) (Nat.le_of_ble_eq_true rfl) (Nat.le_of_ble_eq_true rfl) (Nat.le_refl _) (by show 0 + A.slots.size ≤ A.slots.size; omega) (g := (mkF m 6 #[.val (.ref a), .val (.ref b)] [.null, .int (Int32.ofNat A.slots.size), .int (Int32.ofNat 0), .ref b, .ref a])) rfl (by rw [hml]; rfl) c2 (argsL := [.ref b, .int (Int32.ofNat 0), .int (Int32.ofNat A.slots.size), .null]) (rest := []) rfl rfl (by show 2 * 0 + 0 ≤ _; decide) (hb hbytes d6) (⟨rfl, hB.mv X0.warmed.alike hh0, f1.al X0.warmed.alike, f2.al X0.warmed.alike, hA.mv X0.warmed.alike hh0, s1.there X0.warmed.alike hh0, hz, l0, by omega, l2, fun i hi => by rw [Nat.zero_add]; exact hp i hi⟩)
  have e0 := Got.mv _ s₁ s _ _ hh0.symm (Vm.Alike.refl _) rfl E3
  obtain rfl := e0.1
  have c4 : Steps p.tables e below (s₁.setTop (entryFrame m #[.ref a, .ref b] 2)) (T3.setTop (mkF m 9 #[.val (.ref a), .val (.ref b)] [])) := g3
  exact ⟨T3, none, _, _, _, X3, by simp, rfl, by omega, (fun _ => rfl), e0, fun fs hl => c4.trans (X3.returnOut hexec hret (hb hbytes d9) hl)⟩
theorem pays {l : Launch} {R : Room} {p : Program} {e : Env} {below : List Frame} {s : State} {sargs : Array Value} {len W : Nat} (a : Addr) (D : Cell) (fV fC : Field) (b : Addr) (A : Cell) (z : Int32) (htab : tab.before sargs s = true) (hfr : 4 ≤ R.frames) (hlo : W + 65 ≤ R.locals) :
    Back l R p e below s sargs yN len W (fun A₁ a₁ => A₁.cells + 1 ≤ R.cells ∧ A₁.slots + A.slots.size ≤ R.slots ∧ P a D fV fC b A z a₁ A₁.U) (fun A₁ _ v₁ B₁ => E a D fV fC A v₁ A₁.U B₁.U ∧ B₁.locs = A₁.locs ++ [⟨a, fC.slot⟩, ⟨a, fV.slot⟩] ∧ B₁.cells = A₁.cells + 1 ∧ B₁.slots = A₁.slots + A.slots.size) :=
  (law l a D fV fC b A z).pays htab hfr (by omega)
end New1
/-- the byte, read back as charAt reads it, is the char -/
theorem lo8_mask {x : Int32} (h0 : ¬ x < 0) (h1 : ¬ 255 < x) : lo8 x &&& 255 = x := by
  have t : ∀ k : Fin 256, lo8 (Int32.ofNat k.val) &&& 255 = Int32.ofNat k.val := by decide +kernel
  rw [Int32.lt_iff_toInt_lt] at h0 h1
  have e0 : (0 : Int32).toInt = 0 := rfl
  have e1 : (255 : Int32).toInt = 255 := rfl
  obtain ⟨k, hk⟩ : ∃ k : Nat, x.toInt = k := ⟨x.toInt.toNat, by omega⟩
  have hx : x = Int32.ofNat k := Int32.toInt_inj.mp (by rw [hk, Int32.toInt_ofNat_small (by omega)])
  rw [hx]
  exact t ⟨k, by omega⟩
end StrChars
namespace StrChars.Road
open Jvm Sem ClassFile Op Lib Jvm.Stand Jvm.Free Jvm.Free.XT
open Jvm.Lib.Cold (StaticIs)
abbrev ST : String := "java/lang/String"
/-- every table word that New1's law asks, flat -/
abbrev words : List Jvm.Cond := [.code New1.yN New1.yB 2 none, .initialized ST, .methodLink ST 27 New4.yN, .instanceMethod New4.yN,
  .code New4.yN New4.yB 6 none, .fieldLink ST 38 ST "COMPACT_STRINGS" "Z", .laysFinal ST ST "value" "[B", .fieldLink ST 9 ST "value" "[B", .laysFinal ST ST "coder" "B", .fieldLink ST 15 ST "coder" "B",
  .methodLink ST 1 Lib.objectInit, .instanceMethod Lib.objectInit, .code Lib.objectInit ⟨#[0xb1]⟩ 1 none, .methodLink ST 177 Cmp3.yN, .static Cmp3.yN, .methodLink ST 47 CodL.yN, .static CodL.yN,
  .code Cmp3.yN Cmp3.yB 6 (some (.array .byte)), .initialized U16, .arrayClass .byte, .methodLink U16 115 Cmp5.yN, .static Cmp5.yN, .code Cmp5.yN Cmp5.yB 7 (some .int), .code CodL.yN CodL.yB 2 (some .byte)]
theorem tab_of {a : Array Value} {s : State} (h : ∀ w ∈ words, w.before a s = true) : New1.tab.before a s = true := by
  have h5 : Cmp5.tab.before a s = true := unparts (wk h (.code Cmp5.yN Cmp5.yB 7 (some .int))) (wks h (.initialized Cmp5.yN.cls :: Cmp5.site))
  have hc : CodL.tab.before a s = true := unparts (wk h (.code CodL.yN CodL.yB 2 (some .byte))) (wks h (.initialized CodL.yN.cls :: CodL.site))
  have q5 : ∀ w ∈ Cmp5.tab :: words, w.before a s = true := fun w hw => (List.mem_cons.mp hw).elim (fun e => e ▸ h5) (h w)
  have h3 : Cmp3.tab.before a s = true := unparts (wk q5 (.code Cmp3.yN Cmp3.yB 6 (some (.array .byte)))) (wks q5 (.initialized Cmp3.yN.cls :: Cmp3.site))
  have q3 : ∀ w ∈ Cmp3.tab :: CodL.tab :: words, w.before a s = true := fun w hw => (List.mem_cons.mp hw).elim (fun e => e ▸ h3) fun hw => (List.mem_cons.mp hw).elim (fun e => e ▸ hc) (h w)
  have h4 : New4.tab.before a s = true := unparts (wk q3 (.code New4.yN New4.yB 6 none)) (wks q3 (.initialized New4.yN.cls :: New4.site))
  have q4 : ∀ w ∈ New4.tab :: words, w.before a s = true := fun w hw => (List.mem_cons.mp hw).elim (fun e => e ▸ h4) (h w)
  exact unparts (wk q4 (.code New1.yN New1.yB 2 none)) (wks q4 (.initialized New1.yN.cls :: New1.site))
/-- the words ride from the start Z to the walk's own state -/
theorem moved {Z s : State} {a0 args : Array Value} (hZ : Z.Warmed39 s.vm) (hw : ∀ d ∈ words, d.before a0 Z = true) : ∀ d ∈ words, d.before args s = true := fun d hd => by
  have q := hw d hd
  have t : ∀ d ∈ words, d = .arrayClass .byte ∨ (d.onTables && d.keepsFace) = true := by decide +kernel
  rcases t d hd with rfl | t
  · exact RoadKit.mvA hZ q
  · exact RoadKit.mv hZ q t
/-- WHAT COMES BACK, over the tables of the start Z: h the heap at the call, h' behind it -/
def Q (Z : State) (x : Addr) (A : Cell) (h : Heap) (v : Option Value) (h' : Heap) (L : List Loc) : Prop := v = none ∧ (∀ y ∈ L, y.base = x) ∧ RoadKit.Keep h h' [x] ∧ h'.size = h.size + 1 ∧ RoadKit.Exa Z h' x ST ∧ RoadKit.Fld Z h' x ST "value" "[B" (.ref h.size) ∧ RoadKit.Fld Z h' x ST "coder" "B" (.int 0) ∧
  (∃ V : Cell, RoadKit.Arr Z h' h.size V .byte ∧ V.vm = .none ∧ Z.vm.findClass "[B" = some V.cls ∧ V.slots.size = A.slots.size ∧ ∀ j, j < A.slots.size → V.slots[j]? = some (.int (lo8 (cv A j)))) ∧
  ∀ (O n d : String) (w : Value), RoadKit.Fld Z h x O n d w → RoadKit.slotOf Z O n d ≠ RoadKit.slotOf Z ST "value" "[B" → RoadKit.slotOf Z O n d ≠ RoadKit.slotOf Z ST "coder" "B" → RoadKit.Fld Z h' x O n d w
/-- **new String(chars) AT A CALL, IN THE ROAD'S FORM**: for specialBack behind newO: x the fresh String, b the char[] with the cell A -/
theorem back {p : Program} {l : Launch} {e : Env} {R : Room} {s : State} {args : Array Value} {below : List Frame} {len W : Nat} {Z : State} {a0 : Array Value} {h : Heap} (hZ : Z.Warmed39 s.vm) (hw : ∀ d ∈ words, d.before a0 Z = true) {kI : Nat} (wi : (Jvm.Cond.instantiable ST kI).before a0 Z = true)
    {x b : Addr} {A : Cell} {z : Int32} {v0 c0 : Value} (E : RoadKit.Exa Z h x ST) (V : RoadKit.Fld Z h x ST "value" "[B" v0) (C : RoadKit.Fld Z h x ST "coder" "B" c0) (K : RoadKit.Arr Z h b A .char) (hty : Typed .char A) (S : RoadKit.Sta Z h ST "COMPACT_STRINGS" "Z" (.int z)) (hz : ¬ z = 0)
    (l0 : 0 < A.slots.size) (l2 : A.slots.size ≤ 536870912) (hp : ∀ i, i < A.slots.size → ¬ 255 < cv A i) (hfr : 4 ≤ R.frames) (hlo : W + 65 ≤ R.locals) :
    Back l R p e below s args New1.yN len W (fun P a => a = #[.ref x, .ref b] ∧ P.U.heap = h ∧ P.cells + 1 ≤ R.cells ∧ P.slots + A.slots.size ≤ R.slots)
      (fun P _ v B => ∃ L, Q Z x A h v B.U.heap L ∧ B.locs = P.locs ++ L ∧ B.cells = P.cells + 1 ∧ B.slots = P.slots + A.slots.size) := by
  intro m meth c P g ig mk a X hg hsize hdg hW hn hp'
  obtain ⟨rfl, rfl, r1, r2⟩ := hp'
  have al : Z.vm.Alike P.U.vm := hZ.alike.trans X.warmed.alike
  obtain ⟨D, cfV, kV, iV, fV, hD, gV, stV, knV, obV, asV, slV⟩ := id V
  obtain ⟨D', cfC, kC, iC, fC, hD', gC, stC, -, -, asC, slC⟩ := id C
  cases hD.symm.trans hD'
  obtain ⟨D2, kD, e1, e2, e3, e4, e5⟩ := id E
  cases hD.symm.trans e1
  obtain ⟨c2, k2, i1, i2, i3, -⟩ := Cond.instantiable_spec wi
  cases e2.symm.trans i1
  cases e3.symm.trans i2
  obtain ⟨kU, u1, u2⟩ := al.2.2 _ _ e3
  have hB : Blank ST x D P.U := ⟨hD, ⟨knV, fun q hq => by rw [hq] at obV; cases obV⟩, by rw [al.findClass]; exact e2, kU, u1, by rw [u2]; exact i3, by rw [u2]; exact e5 i3⟩
  have F1 : Found ST "value" "[B" fV P.U := ⟨SBG.found_only al ⟨cfV, kV, iV, gV⟩, stV⟩
  have F2 : Found ST "coder" "B" fC P.U := ⟨SBG.found_only al ⟨cfC, kC, iC, gC⟩, stC⟩
  have hA : Ch b A P.U := ⟨⟨K.1, State.isArrayOf_alike al K.2.1, K.2.2, by omega⟩, hty⟩
  have hS : StaticIs P.U ST "COMPACT_STRINGS" "Z" (.int z) := by
    obtain ⟨cfS, iS, kS, fS, st, cS, t1, t2, t3, t4, t5, t6, t7⟩ := S
    exact StaticIs.there (s := { Z with heap := P.U.heap }) ⟨cfS, iS, kS, fS, st, cS, t1, t2, t3, t4, t5, (fun q => by rw [q] at t6; cases t6), t7⟩ al rfl
  obtain ⟨v, B, X', ⟨⟨hv, E', V', q1, q2, q3, q4, q5, q6, q7, q8, q9, q10, q11⟩, hl, hc, hs⟩, st⟩ := New1.pays x D fV fC b A z (tab_of (moved hZ hw)) hfr hlo m meth c P g ig mk _ X hg hsize hdg hW hn ⟨r1, r2, rfl, hB, F1, F2, hA, hS, hz, l0, l2, hp⟩
  have al' : Z.vm.Alike B.U.vm := hZ.alike.trans X'.warmed.alike
  have hsz : E'.slots.size = D.slots.size := by
    obtain ⟨-, -, -, kB, w1, w2, w3⟩ := q1
    obtain ⟨kB', y1, y2⟩ := al'.2.2 _ _ e3
    rw [q2.2.1] at w1
    cases w1.symm.trans y1
    rw [w3, e5 i3, y2]
  refine ⟨v, B, X', ⟨_, ⟨hv, ?_, ⟨by omega, fun y cy hy hn' => q10 y cy (by simpa using hn') hy, fun y cy hy => ?_⟩, q11, ⟨E', _, q1.1, by rw [q2.2.1]; exact e2, by rw [q2.2.1]; exact e3, by rw [q2.1]; exact obV, fun _ => by rw [hsz]; exact e5 i3⟩,
    ⟨E', cfV, kV, iV, fV, q1.1, gV, stV, by rw [q2.1]; exact knV, by rw [q2.1]; exact obV, by rw [q2.2.1]; exact asV, q3⟩, ⟨E', cfC, kC, iC, fC, q1.1, gC, stC, by rw [q2.1]; exact knV, by rw [q2.1]; exact obV, by rw [q2.2.1]; exact asC, q4⟩,
    ⟨V', ⟨q5.1, State.isArrayOf_alike al'.symm q5.2.1, q5.2.2.1⟩, q6, by rw [← al'.findClass]; exact q7, q8, fun j hj => by have := q9 j hj; rwa [Nat.zero_add] at this⟩, fun O n d w F n1 n2 => ?_⟩, hl, hc, hs⟩, st⟩
  · intro y hy
    simp only [List.mem_cons, List.not_mem_nil, or_false] at hy
    rcases hy with rfl | rfl <;> rfl
  · by_cases q : y = x
    · subst q
      cases hD.symm.trans hy
      exact ⟨E', q1.1, q2.2.1, q2.1, hsz⟩
    · exact ⟨cy, q10 y cy q hy, rfl, rfl, rfl⟩
  · obtain ⟨D3, cf, k, i, f, g1, g2, g3, g4, g5, g6, g7⟩ := F
    cases hD.symm.trans g1
    simp only [RoadKit.slotOf, g2, gV, gC, Option.map_some, Option.getD_some] at n1 n2
    exact ⟨E', cf, k, i, f, q1.1, g2, g3, by rw [q2.1]; exact g4, by rw [q2.1]; exact g5, by rw [q2.2.1]; exact g6, by rw [q2.2.2 f.slot (by simp [n1, n2])]; exact g7⟩
end StrChars.Road
namespace StrChars.Road
open Jvm Sem ClassFile Op Lib Jvm.Stand Jvm.Free Jvm.Free.XT
/-- WHAT COMES BACK, the byte[] as a list of values -/
def QA (Z : State) (x : Addr) (zn : Int32) (cs : List Int32) (h : Heap) (v : Option Value) (h' : Heap) (L : List Loc) : Prop := v = none ∧ (∀ y ∈ L, y.base = x) ∧ RoadKit.Keep h h' [x] ∧ h'.size = h.size + 1 ∧ RoadKit.Exa Z h' x ST ∧ RoadKit.Fld Z h' x ST "value" "[B" (.ref h.size) ∧ RoadKit.Fld Z h' x ST "coder" "B" (.int 0) ∧
  (∃ kb, Z.vm.findClass "[B" = some kb ∧ RoadKit.Arv Z h' h.size kb .byte zn (cs.map fun c => .int (lo8 c)) (.int 0)) ∧
  ∀ (O n d : String) (w : Value), RoadKit.Fld Z h x O n d w → RoadKit.slotOf Z O n d ≠ RoadKit.slotOf Z ST "value" "[B" → RoadKit.slotOf Z O n d ≠ RoadKit.slotOf Z ST "coder" "B" → RoadKit.Fld Z h' x O n d w
/-- **new String(chars) AT A CALL, THE ARRAYS AS LISTS**: the char[] at b holds cs, not empty, no char above 255 -/
theorem backArv {p : Program} {l : Launch} {e : Env} {R : Room} {s : State} {args : Array Value} {below : List Frame} {len W : Nat} {Z : State} {a0 : Array Value} {h : Heap} (hZ : Z.Warmed39 s.vm) (hw : ∀ d ∈ words, d.before a0 Z = true) {kI : Nat} (wi : (Jvm.Cond.instantiable ST kI).before a0 Z = true)
    {x b : Addr} {k : ClassId} {zn z : Int32} {cs : List Int32} {dv v0 c0 : Value} (E : RoadKit.Exa Z h x ST) (V : RoadKit.Fld Z h x ST "value" "[B" v0) (C : RoadKit.Fld Z h x ST "coder" "B" c0) (K : RoadKit.Arv Z h b k .char zn (cs.map Value.int) dv) (S : RoadKit.Sta Z h ST "COMPACT_STRINGS" "Z" (.int z)) (hz : ¬ z = 0)
    (hlen : zn.toNatClampNeg = cs.length) (h0 : 0 < cs.length) (hbig : cs.length ≤ 536870912) (hall : ∀ c ∈ cs, ¬ 255 < c) (hfr : 4 ≤ R.frames) (hlo : W + 65 ≤ R.locals) :
    Back l R p e below s args New1.yN len W (fun P a => a = #[.ref x, .ref b] ∧ P.U.heap = h ∧ P.cells + 1 ≤ R.cells ∧ P.slots + cs.length ≤ R.slots)
      (fun P _ v B => ∃ L, QA Z x zn cs h v B.U.heap L ∧ B.locs = P.locs ++ L ∧ B.cells = P.cells + 1 ∧ B.slots = P.slots + cs.length) := by
  obtain ⟨A, K1, K2, K3, K4, K5, K6⟩ := K
  have e : A.slots.size = cs.length := K3.trans hlen
  have hat : ∀ (i : Nat) (hi : i < cs.length), A.slots[i]? = some (.int cs[i]) := fun i hi => by rw [K5 i (by omega)]; simp [List.getD_eq_getElem?_getD, hi]
  have hcv : ∀ (i : Nat) (hi : i < cs.length), cv A i = cs[i] := fun i hi => by unfold cv; rw [hat i hi]
  have hty : Typed .char A := fun i v hv => by
    have hi : i < A.slots.size := (Array.getElem?_eq_some_iff.mp hv).1
    have q := K5 i hi
    rw [hv] at q
    rw [Option.some.inj q]
    exact K6 i hi
  refine Back.mono (back hZ hw wi E V C K1 hty S hz (by omega) (by omega) (fun i hi => by rw [hcv i (by omega)]; exact hall _ (List.getElem_mem _)) hfr hlo) (fun P a hp => ⟨hp.1, hp.2.1, hp.2.2.1, by rw [e]; exact hp.2.2.2⟩) (fun P a v B hp hq => ?_)
  obtain ⟨L, ⟨q1, q2, q3, q4, q5, q6, q7, ⟨V', v1, v2, v3, v4, v5⟩, q9⟩, hl, hc, hs⟩ := hq
  refine ⟨L, ⟨q1, q2, q3, q4, q5, q6, q7, ⟨V'.cls, v3, V', v1, rfl, by rw [v4, e, hlen], K4, fun i hi => ?_, fun i hi => ?_⟩, q9⟩, hl, hc, by rw [hs, e]⟩
  · have hi' : i < cs.length := by omega
    rw [v5 i (by omega), hcv i hi']; simp [List.getD_eq_getElem?_getD, hi']
  · have hi' : i < cs.length := by omega
    simp only [List.getD_eq_getElem?_getD, List.getElem?_map, List.getElem?_eq_getElem hi', Option.map_some, Option.getD_some]
    exact fits_lo8 _
end StrChars.Road
namespace StrChars.Road
open Jvm Sem ClassFile Op Lib Jvm.Stand Jvm.Free Jvm.Free.XT
/-- WHAT COMES BACK, in the writer's own shape -/
def QV (Z : State) (x : Addr) (N : Int32) (bs : List Int32) (h : Heap) (n0 : Nat) (v : Option Value) (h' : Heap) (L : List Loc) : Prop := v = none ∧ RoadKit.Fr n0 L ∧ RoadKit.Keep h h' [x] ∧ RoadKit.Exa Z h' x ST ∧ RoadKit.Fld Z h' x ST "coder" "B" (.int 0) ∧
  ∃ (t : Addr) (kb : ClassId), n0 ≤ t ∧ h.size ≤ t ∧ ¬ t = x ∧ RoadKit.Fld Z h' x ST "value" "[B" (.ref t) ∧ RoadKit.Arv Z h' t kb .byte N (bs.map Value.int) (.int 0)
/-- **new String(chars) AT A CALL, FOR THE WRITER**: a char[] of n known ints, each 0 to 255 -/
theorem backV {p : Program} {l : Launch} {e : Env} {R : Room} {s : State} {args : Array Value} {below : List Frame} {len W : Nat} {Z : State} {a0 : Array Value} {h : Heap} (hZ : Z.Warmed39 s.vm) (hw : ∀ d ∈ words, d.before a0 Z = true) {kI : Nat} (wi : (Jvm.Cond.instantiable ST kI).before a0 Z = true)
    {x b : Addr} {kC : ClassId} {cs bs : List Int32} {d v0 c0 : Value} {z N : Int32} {n n0 : Nat} (hx0 : n0 ≤ x) (hh0 : n0 ≤ h.size) (E : RoadKit.Exa Z h x ST) (V : RoadKit.Fld Z h x ST "value" "[B" v0) (C : RoadKit.Fld Z h x ST "coder" "B" c0) (K : RoadKit.Arv Z h b kC .char N (cs.map Value.int) d) (S : RoadKit.Sta Z h ST "COMPACT_STRINGS" "Z" (.int z)) (hz : ¬ z = 0)
    (hn : cs.length = n) (hN : N = Int32.ofNat n) (l0 : 0 < n) (l2 : n ≤ 4000) (hp : ∀ c ∈ cs, ¬ c < 0 ∧ ¬ (255 : Int32) < c) (hb : bs = cs.map (fun c => c.toInt8.toInt32)) (hfr : 4 ≤ R.frames) (hlo : W + 65 ≤ R.locals) :
    Back l R p e below s args (⟨"java/lang/String", "<init>", "([C)V"⟩ : MethodName) len W (fun P a => a = #[.ref x, .ref b] ∧ P.U.heap = h ∧ P.cells + 1 ≤ R.cells ∧ P.slots + n ≤ R.slots)
      (fun P _ v B => ∃ L, QV Z x N bs h n0 v B.U.heap L ∧ B.locs = P.locs ++ L ∧ B.cells = P.cells + 1 ∧ B.slots = P.slots + n) := by
  subst hn hN hb
  refine Back.mono (backArv hZ hw wi E V C K S hz (n32 (by omega)) l0 (by omega) (fun c hc => (hp c hc).2) hfr hlo) (fun P a hp => hp) (fun P a v B hp hq => ?_)
  obtain ⟨L, ⟨q1, q2, q3, q4, q5, q6, q7, ⟨kb, v1, v2⟩, q9⟩, hl, hc, hs⟩ := hq
  exact ⟨L, ⟨q1, fun y hy => by rw [q2 y hy]; exact hx0, q3, q5, q7, h.size, kb, hh0, Nat.le_refl _, Nat.ne_of_gt E.lt, q6, by rw [List.map_map]; exact v2⟩, hl, hc, hs⟩
end StrChars.Road
namespace StrChars
open Jvm Sem ClassFile Op Lib Jvm.Stand Jvm.Free.XT Jvm.Free.ALB Jvm.Free.JM Jvm.Free
open Jvm.Lib.Cold (StaticIs)
def hi8 (x : Int32) : Int32 := lo8 (x >>> ((8 : Int32) &&& 31))
/-- what StringUTF16.getChar makes of two bytes -/
def pairCh (u v : Int32) : Int32 := (((u &&& 255) <<< ((0 : Int32) &&& 31)) ||| ((v &&& 255) <<< ((8 : Int32) &&& 31))).toUInt32.toUInt16.toUInt32.toInt32
theorem shr0 (c : Int32) : c >>> ((0 : Int32) &&& 31) = c := by
  have e : ((0 : Int32) &&& 31) = 0 := by decide
  rw [e]
  apply Int32.toBitVec_inj.mp
  rw [Int32.toBitVec_shiftRight]
  have e1 : ((0 : Int32).toBitVec.smod 32) = 0#32 := by decide
  rw [e1, BitVec.sshiftRight_eq']
  exact BitVec.sshiftRight_zero
theorem lo8_and (x : Int32) : (lo8 x &&& 255).toBitVec.toNat = x.toBitVec.toNat % 256 := by
  have h : (lo8 x).toBitVec = (x.toBitVec.signExtend 8).signExtend 32 := by rw [lo8, Int8.toBitVec_toInt32, Int32.toBitVec_toInt8]
  rw [Int32.toBitVec_and, BitVec.toNat_and, h]
  have e : ((x.toBitVec.signExtend 8).signExtend 32).toNat % 256 = x.toBitVec.toNat % 256 := by
    rw [BitVec.toNat_signExtend]
    have hlt := x.toBitVec.isLt
    simp only [BitVec.toNat_setWidth, BitVec.toNat_signExtend]
    split <;> split <;> omega
  rw [← e]
  exact Nat.and_two_pow_sub_one_eq_mod _ 8
theorem pair_says {c : Int32} (h0 : ¬ c < 0) (h1 : ¬ 65535 < c) : pairCh (lo8 c) (hi8 c) = c := by
  rw [Int32.lt_iff_toInt_lt] at h0 h1
  have e0 : (0 : Int32).toInt = 0 := rfl
  have e1 : (65535 : Int32).toInt = 65535 := rfl
  have hc : c.toInt = c.toBitVec.toNat := by
    have := c.toBitVec.isLt
    have e : c.toInt = c.toBitVec.toInt := rfl
    rw [e] at h0 h1
    rw [e]
    rw [BitVec.toInt_eq_toNat_cond] at h0 h1 ⊢
    split at h0 <;> split <;> omega
  have hn : c.toBitVec.toNat < 65536 := by omega
  have a1 := lo8_and c
  have a2 : (hi8 c &&& 255).toBitVec.toNat = c.toBitVec.toNat / 256 := by
    rw [hi8, lo8_and]
    have e : ((8 : Int32) &&& 31) = 8 := by decide
    rw [e, Int32.toBitVec_shiftRight]
    have e2 : ((8 : Int32).toBitVec.smod 32) = 8#32 := by decide
    rw [e2, BitVec.sshiftRight_eq', BitVec.toNat_sshiftRight_of_msb_false (by rw [BitVec.msb_eq_false_iff_two_mul_lt]; omega)]
    show c.toBitVec.toNat >>> 8 % 256 = _
    rw [Nat.shiftRight_eq_div_pow]
    omega
  unfold pairCh
  apply Int32.toBitVec_inj.mp
  apply BitVec.eq_of_toNat_eq
  have f0 : ((0 : Int32) &&& 31) = 0 := by decide
  have f8 : ((8 : Int32) &&& 31) = 8 := by decide
  rw [f0, f8]
  have g : (((lo8 c &&& 255) <<< (0 : Int32)) ||| ((hi8 c &&& 255) <<< (8 : Int32))).toBitVec.toNat = c.toBitVec.toNat := by
    rw [Int32.toBitVec_or, Int32.toBitVec_shiftLeft, Int32.toBitVec_shiftLeft]
    have s0 : ((0 : Int32).toBitVec.smod 32) = 0#32 := by decide
    have s8 : ((8 : Int32).toBitVec.smod 32) = 8#32 := by decide
    rw [s0, s8, BitVec.toNat_or]
    simp only [BitVec.shiftLeft_eq', BitVec.toNat_shiftLeft, a1, a2]
    show (c.toBitVec.toNat % 256) <<< 0 % 2 ^ 32 ||| (c.toBitVec.toNat / 256) <<< 8 % 2 ^ 32 = _
    rw [Nat.shiftLeft_zero, Nat.mod_eq_of_lt (show c.toBitVec.toNat % 256 < 2 ^ 32 by omega), Nat.mod_eq_of_lt (show (c.toBitVec.toNat / 256) <<< 8 < 2 ^ 32 by rw [Nat.shiftLeft_eq]; omega), Nat.or_comm, ← Nat.shiftLeft_add_eq_or_of_lt (by omega), Nat.shiftLeft_eq]
    omega
  show BitVec.toNat (((((lo8 c &&& 255) <<< (0 : Int32)) ||| ((hi8 c &&& 255) <<< (8 : Int32))).toBitVec.setWidth 16).setWidth 32) = _
  rw [BitVec.toNat_setWidth, BitVec.toNat_setWidth, g]
  omega
end StrChars
namespace StrChars
open Jvm Sem ClassFile Op Lib Jvm.Stand Jvm.Free.XT Jvm.Free.ALB Jvm.Free.JM Jvm.Free
open Jvm.Lib.Cold (StaticIs)
theorem shr1 {n : Nat} (h : 2 * n < 2 ^ 31) : Int32.ofNat (2 * n) >>> ((1 : Int32) &&& 31) = Int32.ofNat n := by
  have e : ((1 : Int32) &&& 31) = 1 := by decide
  rw [e]
  apply Int32.toBitVec_inj.mp
  rw [Int32.toBitVec_shiftRight]
  have e1 : ((1 : Int32).toBitVec.smod 32) = 1#32 := by decide
  have hm : (BitVec.ofNat 32 (2 * n)).toNat = 2 * n := by rw [BitVec.toNat_ofNat, Nat.mod_eq_of_lt (by omega)]
  rw [e1, BitVec.sshiftRight_eq']
  apply BitVec.eq_of_toNat_eq
  show ((BitVec.ofNat 32 (2 * n)).sshiftRight 1).toNat = (BitVec.ofNat 32 n).toNat
  rw [BitVec.toNat_sshiftRight_of_msb_false (by rw [BitVec.msb_eq_false_iff_two_mul_lt, hm]; omega), hm, BitVec.toNat_ofNat, Nat.shiftRight_eq_div_pow]
  omega
/-- charAt's cast of a byte read back -/
def chr8 (u : Int32) : Int32 := (u &&& 255).toUInt32.toUInt16.toUInt32.toInt32
theorem chr8_lo8 {c : Int32} (h0 : ¬ c < 0) (h1 : ¬ 255 < c) : chr8 (lo8 c) = c := by
  have t : ∀ k : Fin 256, (Int32.ofNat k.val).toUInt32.toUInt16.toUInt32.toInt32 = Int32.ofNat k.val := by decide +kernel
  unfold chr8
  rw [lo8_mask h0 h1]
  rw [Int32.lt_iff_toInt_lt] at h0 h1
  have e0 : (0 : Int32).toInt = 0 := rfl
  have e1 : (255 : Int32).toInt = 255 := rfl
  obtain ⟨k, hk⟩ : ∃ k : Nat, c.toInt = k := ⟨c.toInt.toNat, by omega⟩
  have hx : c = Int32.ofNat k := Int32.toInt_inj.mp (by rw [hk, Int32.toInt_ofNat_small (by omega)])
  rw [hx]
  exact t ⟨k, by omega⟩
theorem narrow_ch {c : Int32} (h0 : ¬ c < 0) (h1 : ¬ 65535 < c) : narrow .char (.int c) = .int c := by
  have q : narrow .char (.int (pairCh (lo8 c) (hi8 c))) = .int (pairCh (lo8 c) (hi8 c)) := narrow_c _
  rwa [pair_says h0 h1] at q
/-- the array's cell V codes the n chars f 0 .. f (n - 1) by the coder cd, as the JDK does: coder 1 just where some char is above 255 -/
def Cod (cd : Int32) (n : Nat) (f : Nat → Int32) (V : Cell) : Prop := (cd = 0 ∧ V.slots.size = n ∧ ∀ j, j < n → V.slots[j]? = some (.int (lo8 (f j))) ∧ ¬ 255 < f j) ∨ (cd = 1 ∧ V.slots.size = 2 * n ∧ (∀ j, j < n → V.slots[2 * j]? = some (.int (lo8 (f j))) ∧ V.slots[2 * j + 1]? = some (.int (hi8 (f j)))) ∧ ∃ j, j < n ∧ 255 < f j)
theorem Cod.cd {cd : Int32} {n : Nat} {f : Nat → Int32} {V : Cell} (h : Cod cd n f V) : cd = 0 ∨ cd = 1 := h.imp (fun q => q.1) fun q => q.1
theorem Cod.len {cd : Int32} {n : Nat} {f : Nat → Int32} {V : Cell} (h : Cod cd n f V) (hs : V.slots.size < 2 ^ 31) : Int32.ofNat V.slots.size >>> (cd &&& 31) = Int32.ofNat n := by
  rcases h with ⟨rfl, h, -⟩ | ⟨rfl, h, -⟩
  · rw [shr0, h]
  · rw [h, shr1 (by omega)]
/-- **x is a String of the n chars f 0 .. f (n - 1)**, Latin-1 or UTF-16; its array at t has the cell V -/
def Txt (x t : Addr) (V : Cell) (cd : Int32) (n : Nat) (f : Nat → Int32) (U : State) : Prop := Exact "java/lang/String" x U ∧ Has x "java/lang/String" "value" "[B" (.ref t) U ∧ Has x "java/lang/String" "coder" "B" (.int cd) U ∧ XT.Arr .byte t V U ∧ Cod cd n f V ∧ ∀ j, j < n → ¬ f j < 0 ∧ ¬ 65535 < f j
theorem Txt.mv {x t : Addr} {V : Cell} {cd : Int32} {n : Nat} {f : Nat → Int32} {U U' : State} (h : Txt x t V cd n f U) (hal : U.vm.Alike U'.vm) (hh : U'.heap = U.heap) : Txt x t V cd n f U' := ⟨h.1.mv hal hh, h.2.1.mv hal hh, h.2.2.1.mv hal hh, h.2.2.2.1.mv hal hh, h.2.2.2.2⟩
namespace Cdr
def yN : MethodName := ⟨"java/lang/String", "coder", "()B"⟩
abbrev yB : ByteArray := jdk_42_method_152_code
theorem d0 : decode yB 0 = .ok (.getstatic 38, 3) := by decide +kernel
theorem d3 : decode yB 3 = .ok (.ifCond (.eq) 10, 3) := by decide +kernel
theorem d6 : decode yB 6 = .ok (.aload_n 0, 1) := by decide +kernel
theorem d7 : decode yB 7 = .ok (.getfield 15, 3) := by decide +kernel
theorem d10 : decode yB 10 = .ok (.goto 4, 3) := by decide +kernel
theorem d14 : decode yB 14 = .ok (.ireturn, 1) := by decide +kernel
def site : List Cond := [.fieldLink "java/lang/String" 38 "java/lang/String" "COMPACT_STRINGS" "Z", .fieldLink "java/lang/String" 15 "java/lang/String" "coder" "B"]
def tab : Cond := tabOf yN yB 1 (some .byte) site
def P (x : Addr) (cd z : Int32) (args : Array Value) (s : State) : Prop := args = #[.ref x] ∧ Has x "java/lang/String" "coder" "B" (.int cd) s ∧ (cd = 0 ∨ cd = 1) ∧ StaticIs s "java/lang/String" "COMPACT_STRINGS" "Z" (.int z) ∧ ¬ z = 0
def E (cd : Int32) (r : Option Value) (s u : State) : Prop := XT.PureE (some (.int cd)) r s u
theorem law (l : Launch) (x : Addr) (cd z : Int32) : Law l yN 1 0 0 0 yB 1 (some .byte) site (P x cd z) (E cd) [] 0 0 := by
  refine Law.of_walk (plainFor_of_name (by decide +kernel)) (by decide +kernel) (by decide +kernel) (by decide) (fun _ _ h => by rw [h.1]; rfl) (fun _ U U' hal hh h => ⟨h.1, h.2.1.mv hal hh, h.2.2.1, h.2.2.2.1.there hal hh, h.2.2.2.2⟩) (fun r U U' V V' h1 hal h2 h => XT.PureE.mv r U U' V V' h1 hal h2 h) ?_
  intro p e s m args below meth c s₁ X0 hexec hbytes hml hret hlk hnm hown hh0 W hP
  obtain ⟨rfl, hx, hc, s1, hz⟩ := hP
  have c1 : Steps p.tables e below (s₁.setTop (entryFrame m #[.ref x] 1)) (s₁.setTop (mkF m 0 #[.val (.ref x)] [])) := entry rfl
  obtain ⟨T2, X2, q2, st2⟩ := X0.sget hexec hown (wk W (.fieldLink "java/lang/String" 38 "java/lang/String" "COMPACT_STRINGS" "Z")) s1 (fun _ _ h => by rw [hh0]; exact h) (g := (mkF m 0 #[.val (.ref x)] [])) rfl (hb hbytes d0)
  have hh2 := q2.trans hh0
  have c3 : Steps p.tables e below (s₁.setTop (entryFrame m #[.ref x] 1)) (T2.setTop (mkF m 7 #[.val (.ref x)] [.ref x])) := (c1.trans (st2 _ (Steps.refl _))).trans (by
    refine XS.ifNo X2.here hexec rfl (hb hbytes d3) rfl (i0_eq_f hz) ?_
    refine XS.aloadN X2.here hexec rfl (hb hbytes d6) rfl rfl ?_
    exact Steps.refl _)
  obtain ⟨T4, X4, q4, st4⟩ := X2.hget hexec hown (wk W (.fieldLink "java/lang/String" 15 "java/lang/String" "coder" "B")) (hx.mv X2.warmed.alike hh2) (g := (mkF m 7 #[.val (.ref x)] [.ref x])) rfl (rest := []) rfl (hb hbytes d7)
  have c5 : Steps p.tables e below (s₁.setTop (entryFrame m #[.ref x] 1)) (T4.setTop (mkF m 14 #[.val (.ref x)] [.int cd])) := (c3.trans (st4 _ (Steps.refl _))).trans (by
    refine XS.goto X4.here hexec rfl (pc0 := 10) rfl (hb hbytes d10) (by decide) rfl ?_
    exact Steps.refl _)
  exact ⟨T4, some (.int cd), _, _, _, X4, rfl, rfl, rfl, (fun h => by cases h), ⟨rfl, q4.trans hh2⟩, fun fs hl => c5.trans (X4.ireturnOut hexec hret (by rcases hc with rfl | rfl <;> rfl) (Or.inr (Or.inr (Or.inl rfl))) (hb hbytes d14) hl)⟩
end Cdr
namespace Len
def yN : MethodName := ⟨"java/lang/String", "length", "()I"⟩
abbrev yB : ByteArray := jdk_42_method_54_code
theorem d0 : decode yB 0 = .ok (.aload_n 0, 1) := by decide +kernel
theorem d1 : decode yB 1 = .ok (.getfield 9, 3) := by decide +kernel
theorem d4 : decode yB 4 = .ok (.arraylength, 1) := by decide +kernel
theorem d5 : decode yB 5 = .ok (.aload_n 0, 1) := by decide +kernel
theorem d6 : decode yB 6 = .ok (.invokevirtual 335, 3) := by decide +kernel
theorem d9 : decode yB 9 = .ok (.ishr, 1) := by decide +kernel
theorem d10 : decode yB 10 = .ok (.ireturn, 1) := by decide +kernel
def site : List Cond := [.fieldLink "java/lang/String" 9 "java/lang/String" "value" "[B", Cdr.tab] ++ virtW "java/lang/String" 335 "java/lang/String" Cdr.yN Cdr.yN
def tab : Cond := tabOf yN yB 1 (some .int) site
def P (x t : Addr) (V : Cell) (cd : Int32) (n : Nat) (f : Nat → Int32) (z : Int32) (args : Array Value) (s : State) : Prop := args = #[.ref x] ∧ Txt x t V cd n f s ∧ StaticIs s "java/lang/String" "COMPACT_STRINGS" "Z" (.int z) ∧ ¬ z = 0
def E (n : Nat) (r : Option Value) (s u : State) : Prop := XT.PureE (some (.int (Int32.ofNat n))) r s u
/-- length() of a String of n chars, in either coding -/
theorem law (l : Launch) (x t : Addr) (V : Cell) (cd : Int32) (n : Nat) (f : Nat → Int32) (z : Int32) : Law l yN 1 0 1 13 yB 1 (some .int) site (P x t V cd n f z) (E n) [] 0 0 := by
  refine Law.of_walk (plainFor_of_name (by decide +kernel)) (by decide +kernel) (by decide +kernel) (by decide) (fun _ _ h => by rw [h.1]; rfl) (fun _ U U' hal hh h => ⟨h.1, h.2.1.mv hal hh, h.2.2.1.there hal hh, h.2.2.2⟩) (fun r U U' V V' h1 hal h2 h => XT.PureE.mv r U U' V V' h1 hal h2 h) ?_
  intro p e s m args below meth c s₁ X0 hexec hbytes hml hret hlk hnm hown hh0 W hP
  obtain ⟨rfl, hx, s1, hz⟩ := hP
  have v31 := hx.2.2.2.1.2.2.2
  have c1 : Steps p.tables e below (s₁.setTop (entryFrame m #[.ref x] 1)) (s₁.setTop (mkF m 1 #[.val (.ref x)] [.ref x])) := Steps.trans (entry rfl) (by
    show Steps p.tables e below (s₁.setTop (mkF m 0 #[.val (.ref x)] [])) _
    refine XS.aloadN X0.here hexec rfl (hb hbytes d0) rfl rfl ?_
    exact Steps.refl _)
  obtain ⟨T2, X2, q2, st2⟩ := X0.hget hexec hown (wk W (.fieldLink "java/lang/String" 9 "java/lang/String" "value" "[B")) (hx.mv X0.warmed.alike hh0).2.1 (g := (mkF m 1 #[.val (.ref x)] [.ref x])) rfl (rest := []) rfl (hb hbytes d1)
  have hh2 := q2.trans hh0
  have hx2 := hx.mv X2.warmed.alike hh2
  have c3 : Steps p.tables e below (s₁.setTop (entryFrame m #[.ref x] 1)) (T2.setTop (mkF m 6 #[.val (.ref x)] [.ref x, .int (Int32.ofNat V.slots.size)])) := (c1.trans (st2 _ (Steps.refl _))).trans (by
    refine X2.alen hexec hx2.2.2.2.1 rfl rfl (hb hbytes d4) ?_
    refine XS.aloadN X2.here hexec rfl (hb hbytes d5) rfl rfl ?_
    exact Steps.refl _)
  obtain ⟨v4, T4, X4, E4, g4⟩ := X2.callV hexec (Cdr.law l x cd z) hown (wks W (virtW "java/lang/String" 335 "java/lang/String" Cdr.yN Cdr.yN)) rfl (by decide) (wk W Cdr.tab) (W := 1) (Nat.le_of_ble_eq_true rfl) (Nat.le_of_ble_eq_true rfl) (Nat.le_refl _) (Nat.le_refl _) (hx2.1.fc X2.warmed.alike) hx2.1.is (g := (mkF m 6 #[.val (.ref x)] [.ref x, .int (Int32.ofNat V.slots.size)])) rfl (by rw [hml]; rfl) c3 (argsL := []) (rest := [.int (Int32.ofNat V.slots.size)]) rfl rfl (by show 2 * 0 + (1 + 0) ≤ _; decide) (hb hbytes d6) (⟨rfl, hx2.2.2.1, hx.2.2.2.2.1.cd, s1.there X2.warmed.alike hh2, hz⟩)
  obtain ⟨rfl, q4⟩ := E4
  have c5 : Steps p.tables e below (s₁.setTop (entryFrame m #[.ref x] 1)) (T4.setTop (mkF m 10 #[.val (.ref x)] [.int (Int32.ofNat V.slots.size >>> (cd &&& 31))])) := Steps.trans g4 (by
    refine ishr X4.here hexec rfl (hb hbytes d9) rfl ?_
    exact Steps.refl _)
  rw [hx.2.2.2.2.1.len v31] at c5
  exact ⟨T4, some (.int (Int32.ofNat n)), _, _, _, X4, rfl, rfl, rfl, (fun h => by cases h), ⟨rfl, q4.trans hh2⟩, fun fs hl => c5.trans (X4.ireturnOut hexec hret rfl (Or.inl rfl) (hb hbytes d10) hl)⟩
theorem pays {l : Launch} {R : Room} {p : Program} {e : Env} {below : List Frame} {s : State} {sargs : Array Value} {len W : Nat} (x t : Addr) (V : Cell) (cd : Int32) (n : Nat) (f : Nat → Int32) (z : Int32) (htab : tab.before sargs s = true) (hfr : 2 ≤ R.frames) (hlo : W + 25 ≤ R.locals) :
    Back l R p e below s sargs yN len W (fun A₁ a₁ => A₁.cells + 0 ≤ R.cells ∧ A₁.slots + 0 ≤ R.slots ∧ P x t V cd n f z a₁ A₁.U) (fun A₁ _ v₁ B₁ => E n v₁ A₁.U B₁.U ∧ B₁.locs = A₁.locs ++ [] ∧ B₁.cells = A₁.cells + 0 ∧ B₁.slots = A₁.slots + 0) :=
  (law l x t V cd n f z).pays htab hfr (by omega)
end Len
namespace IsL
def yN : MethodName := ⟨"java/lang/String", "isLatin1", "()Z"⟩
abbrev yB : ByteArray := jdk_42_method_154_code
theorem d0 : decode yB 0 = .ok (.getstatic 38, 3) := by decide +kernel
theorem d3 : decode yB 3 = .ok (.ifCond (.eq) 14, 3) := by decide +kernel
theorem d6 : decode yB 6 = .ok (.aload_n 0, 1) := by decide +kernel
theorem d7 : decode yB 7 = .ok (.getfield 15, 3) := by decide +kernel
theorem d10 : decode yB 10 = .ok (.ifCond (.ne) 7, 3) := by decide +kernel
theorem d13 : decode yB 13 = .ok (.iconst 1, 1) := by decide +kernel
theorem d14 : decode yB 14 = .ok (.goto 4, 3) := by decide +kernel
theorem d17 : decode yB 17 = .ok (.iconst 0, 1) := by decide +kernel
theorem d18 : decode yB 18 = .ok (.ireturn, 1) := by decide +kernel
def site : List Cond := [.fieldLink "java/lang/String" 38 "java/lang/String" "COMPACT_STRINGS" "Z", .fieldLink "java/lang/String" 15 "java/lang/String" "coder" "B"]
def tab : Cond := tabOf yN yB 1 (some .boolean) site
def P (x : Addr) (cd z : Int32) (args : Array Value) (s : State) : Prop := args = #[.ref x] ∧ Has x "java/lang/String" "coder" "B" (.int cd) s ∧ (cd = 0 ∨ cd = 1) ∧ StaticIs s "java/lang/String" "COMPACT_STRINGS" "Z" (.int z) ∧ ¬ z = 0
def E (cd : Int32) (r : Option Value) (s u : State) : Prop := XT.PureE (some (.int (1 - cd))) r s u
theorem law (l : Launch) (x : Addr) (cd z : Int32) : Law l yN 1 0 0 0 yB 1 (some .boolean) site (P x cd z) (E cd) [] 0 0 := by
  refine Law.of_walk (plainFor_of_name (by decide +kernel)) (by decide +kernel) (by decide +kernel) (by decide) (fun _ _ h => by rw [h.1]; rfl) (fun _ U U' hal hh h => ⟨h.1, h.2.1.mv hal hh, h.2.2.1, h.2.2.2.1.there hal hh, h.2.2.2.2⟩) (fun r U U' V V' h1 hal h2 h => XT.PureE.mv r U U' V V' h1 hal h2 h) ?_
  intro p e s m args below meth c s₁ X0 hexec hbytes hml hret hlk hnm hown hh0 W hP
  obtain ⟨rfl, hx, hc, s1, hz⟩ := hP
  have c1 : Steps p.tables e below (s₁.setTop (entryFrame m #[.ref x] 1)) (s₁.setTop (mkF m 0 #[.val (.ref x)] [])) := entry rfl
  obtain ⟨T2, X2, q2, st2⟩ := X0.sget hexec hown (wk W (.fieldLink "java/lang/String" 38 "java/lang/String" "COMPACT_STRINGS" "Z")) s1 (fun _ _ h => by rw [hh0]; exact h) (g := (mkF m 0 #[.val (.ref x)] [])) rfl (hb hbytes d0)
  have hh2 := q2.trans hh0
  have c3 : Steps p.tables e below (s₁.setTop (entryFrame m #[.ref x] 1)) (T2.setTop (mkF m 7 #[.val (.ref x)] [.ref x])) := (c1.trans (st2 _ (Steps.refl _))).trans (by
    refine XS.ifNo X2.here hexec rfl (hb hbytes d3) rfl (i0_eq_f hz) ?_
    refine XS.aloadN X2.here hexec rfl (hb hbytes d6) rfl rfl ?_
    exact Steps.refl _)
  obtain ⟨T4, X4, q4, st4⟩ := X2.hget hexec hown (wk W (.fieldLink "java/lang/String" 15 "java/lang/String" "coder" "B")) (hx.mv X2.warmed.alike hh2) (g := (mkF m 7 #[.val (.ref x)] [.ref x])) rfl (rest := []) rfl (hb hbytes d7)
  have c5 : Steps p.tables e below (s₁.setTop (entryFrame m #[.ref x] 1)) (T4.setTop (mkF m 10 #[.val (.ref x)] [.int cd])) := c3.trans (st4 _ (Steps.refl _))
  have c6 : Steps p.tables e below (s₁.setTop (entryFrame m #[.ref x] 1)) (T4.setTop (mkF m 18 #[.val (.ref x)] [.int (1 - cd)])) := by
    rcases hc with rfl | rfl
    · exact c5.trans (by
        refine XS.ifNo X4.here hexec rfl (hb hbytes d10) rfl (i0_ne_f rfl) ?_
        refine iconstV X4.here hexec rfl 1 (hb hbytes d13) (by decide) ?_
        refine XS.goto X4.here hexec rfl (pc0 := 14) rfl (hb hbytes d14) (by decide) rfl ?_
        exact Steps.refl _)
    · exact c5.trans (by
        refine XS.ifYes X4.here hexec rfl (pc0 := 10) rfl (hb hbytes d10) rfl (i0_ne_t (by decide)) (by decide) rfl ?_
        refine iconstV X4.here hexec rfl 0 (hb hbytes d17) (by decide) ?_
        exact Steps.refl _)
  exact ⟨T4, some (.int (1 - cd)), _, _, _, X4, rfl, rfl, rfl, (fun h => by cases h), ⟨rfl, q4.trans hh2⟩, fun fs hl => c6.trans (X4.ireturnOut hexec hret (by rcases hc with rfl | rfl <;> rfl) (Or.inr (Or.inl rfl)) (hb hbytes d18) hl)⟩
end IsL
namespace LChA
def yN : MethodName := ⟨"java/lang/StringLatin1", "charAt", "([BI)C"⟩
abbrev yB : ByteArray := jdk_43_method_2_code
theorem d0 : decode yB 0 = .ok (.iload_n 1, 1) := by decide +kernel
theorem d1 : decode yB 1 = .ok (.aload_n 0, 1) := by decide +kernel
theorem d2 : decode yB 2 = .ok (.arraylength, 1) := by decide +kernel
theorem d3 : decode yB 3 = .ok (.invokestatic 9, 3) := by decide +kernel
theorem d6 : decode yB 6 = .ok (.aload_n 0, 1) := by decide +kernel
theorem d7 : decode yB 7 = .ok (.iload_n 1, 1) := by decide +kernel
theorem d8 : decode yB 8 = .ok (.baload, 1) := by decide +kernel
theorem d9 : decode yB 9 = .ok (.sipush 255, 3) := by decide +kernel
theorem d12 : decode yB 12 = .ok (.iand, 1) := by decide +kernel
theorem d13 : decode yB 13 = .ok (.i2c, 1) := by decide +kernel
theorem d14 : decode yB 14 = .ok (.ireturn, 1) := by decide +kernel
def site : List Cond := [JO.Str_checkIndex.tab] ++ staticW "java/lang/StringLatin1" 9 JO.Str_checkIndex.yN
def tab : Cond := tabOf yN yB 2 (some .char) site
def P (t : Addr) (V : Cell) (i : Nat) (u : Int32) (fm : Value) (args : Array Value) (s : State) : Prop := args = #[.ref t, .int (Int32.ofNat i)] ∧ XT.Arr .byte t V s ∧ V.slots[i]? = some (.int u) ∧ (StaticIs s "jdk/internal/util/Preconditions" "SIOOBE_FORMATTER" "Ljava/util/function/BiFunction;" fm ∧ fm.isRef = true)
def E (u : Int32) (r : Option Value) (s w : State) : Prop := XT.PureE (some (.int (chr8 u))) r s w
theorem law (l : Launch) (t : Addr) (V : Cell) (i : Nat) (u : Int32) (fm : Value) : Law l yN 2 2 2 27 yB 2 (some .char) site (P t V i u fm) (E u) [] 0 0 := by
  refine Law.of_walk (plainFor_of_name (by decide +kernel)) (by decide +kernel) (by decide +kernel) (by decide) (fun _ _ h => by rw [h.1]; rfl) (fun _ U U' hal hh h => ⟨h.1, h.2.1.mv hal hh, h.2.2.1, h.2.2.2.1.there hal hh, h.2.2.2.2⟩) (fun r U U' V V' h1 hal h2 h => XT.PureE.mv r U U' V V' h1 hal h2 h) ?_
  intro p e s m args below meth c s₁ X0 hexec hbytes hml hret hlk hnm hown hh0 W hP
  obtain ⟨rfl, hV, hu, s1, rf⟩ := hP
  have v31 := hV.2.2.2
  have hi : i < V.slots.size := (Array.getElem?_eq_some_iff.mp hu).1
  have c1 : Steps p.tables e below (s₁.setTop (entryFrame m #[.ref t, .int (Int32.ofNat i)] 2)) (s₁.setTop (mkF m 0 #[.val (.ref t), .val (.int (Int32.ofNat i))] [])) := entry rfl
  have c2 : Steps p.tables e below (s₁.setTop (entryFrame m #[.ref t, .int (Int32.ofNat i)] 2)) (s₁.setTop (mkF m 3 #[.val (.ref t), .val (.int (Int32.ofNat i))] [.int (Int32.ofNat V.slots.size), .int (Int32.ofNat i)])) := c1.trans (by
    refine XS.iloadN X0.here hexec rfl (hb hbytes d0) rfl ?_
    refine XS.aloadN X0.here hexec rfl (hb hbytes d1) rfl rfl ?_
    refine X0.alen hexec (hV.mv X0.warmed.alike hh0) rfl rfl (hb hbytes d2) ?_
    exact Steps.refl _)
  obtain ⟨v3, T3, X3, E3, g3⟩ := X0.callS hexec (JO.Str_checkIndex.law l (Int32.ofNat i) (Int32.ofNat V.slots.size) fm) hown (wks W (staticW "java/lang/StringLatin1" 9 JO.Str_checkIndex.yN)) (wk W JO.Str_checkIndex.tab) (W := 0) (Nat.le_of_ble_eq_true rfl) (Nat.le_of_ble_eq_true rfl) (Nat.le_refl _) (Nat.le_refl _) (g := (mkF m 3 #[.val (.ref t), .val (.int (Int32.ofNat i))] [.int (Int32.ofNat V.slots.size), .int (Int32.ofNat i)])) rfl (by rw [hml]; rfl) c2 (argsL := [.int (Int32.ofNat i), .int (Int32.ofNat V.slots.size)]) (rest := []) rfl rfl (by show 2 * 0 + 0 ≤ _; decide) (hb hbytes d3) (⟨rfl, rf, s1.there X0.warmed.alike hh0, Int32.ofNat_not_neg (by omega), lt32 v31 hi⟩)
  obtain ⟨rfl, q3⟩ := E3
  have hh3 := q3.trans hh0
  have c4 : Steps p.tables e below (s₁.setTop (entryFrame m #[.ref t, .int (Int32.ofNat i)] 2)) (T3.setTop (mkF m 14 #[.val (.ref t), .val (.int (Int32.ofNat i))] [.int (chr8 u)])) := Steps.trans g3 (by
    refine XS.aloadN X3.here hexec rfl (hb hbytes d6) rfl rfl ?_
    refine XS.iloadN X3.here hexec rfl (hb hbytes d7) rfl ?_
    refine X3.aget hexec (hV.mv X3.warmed.alike hh3) rfl hu rfl rfl (hb hbytes d8) ?_
    refine sipushV X3.here hexec rfl 255 (hb hbytes d9) (by decide) ?_
    refine XS.iand X3.here hexec rfl (hb hbytes d12) rfl ?_
    refine i2c X3.here hexec rfl (hb hbytes d13) rfl ?_
    exact Steps.refl _)
  exact ⟨T3, some (.int (chr8 u)), _, _, _, X3, rfl, rfl, rfl, (fun h => by cases h), ⟨rfl, hh3⟩, fun fs hl => c4.trans (X3.ireturnOut hexec hret (narrow_c _) (Or.inr (Or.inr (Or.inr (Or.inl rfl)))) (hb hbytes d14) hl)⟩
end LChA
end StrChars
namespace StrChars.Road
open Jvm Sem ClassFile Op Lib Jvm.Stand Jvm.Free Jvm.Free.XT
open Jvm.Lib.Cold (StaticIs)
theorem consq {a : Array Value} {s : State} {c : Jvm.Cond} {L : List Jvm.Cond} (h0 : c.before a s = true) (h : ∀ w ∈ L, w.before a s = true) : ∀ w ∈ c :: L, w.before a s = true := fun w hw => (List.mem_cons.mp hw).elim (fun e => e ▸ h0) (h w)
/-- the words of String.length(), either coding -/
abbrev wordsLen : List Jvm.Cond := [.code Len.yN Len.yB 1 (some .int), .initialized ST, .fieldLink ST 9 ST "value" "[B", .fieldLink ST 38 ST "COMPACT_STRINGS" "Z", .fieldLink ST 15 ST "coder" "B", .code Cdr.yN Cdr.yB 1 (some .byte), .methodLink ST 335 Cdr.yN, .declares Cdr.yN, .selects ST Cdr.yN Cdr.yN, .instanceMethod Cdr.yN]
theorem tabLen_of {a : Array Value} {s : State} (h : ∀ w ∈ wordsLen, w.before a s = true) : Len.tab.before a s = true := by
  have hc : Cdr.tab.before a s = true := unparts (wk h (.code Cdr.yN Cdr.yB 1 (some .byte))) (wks h (.initialized Cdr.yN.cls :: Cdr.site))
  have q := consq hc h
  exact unparts (wk q (.code Len.yN Len.yB 1 (some .int))) (wks q (.initialized Len.yN.cls :: Len.site))
theorem movedLen {Z s : State} {a0 args : Array Value} (hZ : Z.Warmed39 s.vm) (hw : ∀ d ∈ wordsLen, d.before a0 Z = true) : ∀ d ∈ wordsLen, d.before args s = true := fun d hd => by
  have q := hw d hd
  have t : ∀ d ∈ wordsLen, d = .arrayClass .byte ∨ (d.onTables && d.keepsFace) = true := by decide +kernel
  rcases t d hd with rfl | t
  · exact RoadKit.mvA hZ q
  · exact RoadKit.mv hZ q t
/-- the bytes of the chars cs, low before high -/
def wideBytes : List Int32 → List Value
  | [] => []
  | c :: cs => .int (lo8 c) :: .int (hi8 c) :: wideBytes cs
theorem wide_lo (d : Value) : ∀ (cs : List Int32) (j : Nat), j < cs.length → (wideBytes cs).getD (2 * j) d = .int (lo8 (cs.getD j 0))
  | [], j, h => absurd h (Nat.not_lt_zero j)
  | c :: cs, 0, _ => rfl
  | c :: cs, j + 1, h => by
    have q := wide_lo d cs j (by simpa using h)
    rw [show 2 * (j + 1) = 2 * j + 1 + 1 from by omega]
    simpa [wideBytes] using q
theorem wide_hi (d : Value) : ∀ (cs : List Int32) (j : Nat), j < cs.length → (wideBytes cs).getD (2 * j + 1) d = .int (hi8 (cs.getD j 0))
  | [], j, h => absurd h (Nat.not_lt_zero j)
  | c :: cs, 0, _ => rfl
  | c :: cs, j + 1, h => by
    have q := wide_hi d cs j (by simpa using h)
    rw [show 2 * (j + 1) + 1 = 2 * j + 1 + 1 + 1 from by omega]
    simpa [wideBytes] using q
theorem low_at (d : Value) (cs : List Int32) (j : Nat) (h : j < cs.length) : (cs.map fun c => Value.int (lo8 c)).getD j d = .int (lo8 (cs.getD j 0)) := by
  simp [List.getD_eq_getElem?_getD, h]
/-- an array of N2 bytes vs codes the chars cs by the coder cd -/
def CodA (cs : List Int32) (cd N2 : Int32) (vs : List Value) : Prop := (cd = 0 ∧ N2 = Int32.ofNat cs.length ∧ vs = (cs.map fun c => Value.int (lo8 c)) ∧ ∀ c ∈ cs, ¬ 255 < c) ∨ (cd = 1 ∧ N2 = Int32.ofNat (2 * cs.length) ∧ vs = wideBytes cs ∧ ∃ c ∈ cs, 255 < c)
theorem CodA.cod {cs : List Int32} {cd N2 : Int32} {vs : List Value} {V : Cell} (h : CodA cs cd N2 vs) (hn : 2 * cs.length < 2 ^ 31) (hs : V.slots.size = N2.toNatClampNeg) (hv : RoadKit.Has V vs (.int 0)) : Cod cd cs.length (fun j => cs.getD j 0) V := by
  rcases h with ⟨rfl, rfl, rfl, h⟩ | ⟨rfl, rfl, rfl, c, hc, hw⟩
  · rw [n32 (by omega)] at hs
    exact Or.inl ⟨rfl, hs, fun j hj => ⟨by rw [hv j (by omega), low_at _ _ _ hj], by
      have e : cs.getD j 0 = cs[j] := by simp [List.getD_eq_getElem?_getD, hj]
      show ¬ 255 < cs.getD j 0
      rw [e]; exact h _ (List.getElem_mem _)⟩⟩
  · rw [n32 (by omega)] at hs
    obtain ⟨j, hj, rfl⟩ := List.getElem_of_mem hc
    exact Or.inr ⟨rfl, hs, fun j hj => ⟨by rw [hv _ (by omega), wide_lo _ _ _ hj], by rw [hv _ (by omega), wide_hi _ _ _ hj]⟩, j, hj, by
      have e : cs.getD j 0 = cs[j] := by simp [List.getD_eq_getElem?_getD, hj]
      show 255 < cs.getD j 0
      rw [e]; exact hw⟩
/-- an object of exactly java/lang/String, its two fields found: as the laws ask it -/
theorem strObj {Z U : State} {a0 : Array Value} {kI : Nat} (wi : (Jvm.Cond.instantiable ST kI).before a0 Z = true) (al : Z.vm.Alike U.vm) {x : Addr} {v0 c0 : Value} (E : RoadKit.Exa Z U.heap x ST) (V : RoadKit.Fld Z U.heap x ST "value" "[B" v0) (C : RoadKit.Fld Z U.heap x ST "coder" "B" c0) :
    ∃ (D : Cell) (fV fC : Field), Blank ST x D U ∧ Found ST "value" "[B" fV U ∧ Found ST "coder" "B" fC U ∧ D.slots[fV.slot]? = some v0 ∧ D.slots[fC.slot]? = some c0 ∧ RoadKit.slotOf Z ST "value" "[B" = fV.slot ∧ RoadKit.slotOf Z ST "coder" "B" = fC.slot := by
  obtain ⟨D, cfV, kV, iV, fV, hD, gV, stV, knV, obV, asV, slV⟩ := V
  obtain ⟨D', cfC, kC, iC, fC, hD', gC, stC, -, -, asC, slC⟩ := C
  cases hD.symm.trans hD'
  obtain ⟨D2, kD, e1, e2, e3, e4, e5⟩ := E
  cases hD.symm.trans e1
  obtain ⟨c2, k2, i1, i2, i3, -⟩ := Cond.instantiable_spec wi
  cases e2.symm.trans i1
  cases e3.symm.trans i2
  obtain ⟨kU, u1, u2⟩ := al.2.2 _ _ e3
  exact ⟨D, fV, fC, ⟨hD, ⟨knV, fun q hq => by rw [hq] at obV; cases obV⟩, by rw [al.findClass]; exact e2, kU, u1, by rw [u2]; exact i3, by rw [u2]; exact e5 i3⟩, ⟨SBG.found_only al ⟨cfV, kV, iV, gV⟩, stV⟩, ⟨SBG.found_only al ⟨cfC, kC, iC, gC⟩, stC⟩, slV, slC, by simp [RoadKit.slotOf, gV], by simp [RoadKit.slotOf, gC]⟩
theorem sta_is {Z U : State} (al : Z.vm.Alike U.vm) {C n d : String} {v : Value} (S : RoadKit.Sta Z U.heap C n d v) : StaticIs U C n d v := by
  obtain ⟨cfS, iS, kS, fS, st, cS, t1, t2, t3, t4, t5, t6, t7⟩ := S
  exact StaticIs.there (s := { Z with heap := U.heap }) ⟨cfS, iS, kS, fS, st, cS, t1, t2, t3, t4, t5, (fun q => by rw [q] at t6; cases t6), t7⟩ al rfl
/-- **length() OF SUCH A STRING** -/
theorem lenW {p : Program} {l : Launch} {e : Env} {R : Room} {s : State} {args : Array Value} {below : List Frame} {len W : Nat} {Z : State} {a0 : Array Value} {h : Heap} (hZ : Z.Warmed39 s.vm) (hw : ∀ d ∈ wordsLen, d.before a0 Z = true) {kI : Nat} (wi : (Jvm.Cond.instantiable ST kI).before a0 Z = true)
    {x t : Addr} {kb : ClassId} {cs : List Int32} {cd N2 z : Int32} {vs : List Value} (E : RoadKit.Exa Z h x ST) (V : RoadKit.Fld Z h x ST "value" "[B" (.ref t)) (C : RoadKit.Fld Z h x ST "coder" "B" (.int cd)) (K : RoadKit.Arv Z h t kb .byte N2 vs (.int 0)) (hc : CodA cs cd N2 vs) (hb : ∀ c ∈ cs, ¬ c < 0 ∧ ¬ (65535 : Int32) < c)
    (S : RoadKit.Sta Z h ST "COMPACT_STRINGS" "Z" (.int z)) (hz : ¬ z = 0) (l2 : cs.length ≤ 4000) (hfr : 2 ≤ R.frames) (hlo : W + 25 ≤ R.locals) :
    Back l R p e below s args (⟨"java/lang/String", "length", "()I"⟩ : MethodName) len W (fun P a => a = #[.ref x] ∧ P.U.heap = h ∧ P.cells + 0 ≤ R.cells ∧ P.slots + 0 ≤ R.slots)
      (fun P _ v B => ∃ L, (v = some (.int (Int32.ofNat cs.length)) ∧ L = [] ∧ B.U.heap = h) ∧ B.locs = P.locs ++ L ∧ B.cells = P.cells + 0 ∧ B.slots = P.slots + 0) := by
  obtain ⟨A, K1, K2, K3, K4, K5, K6⟩ := K
  have hcod := hc.cod (by omega) K3 K5
  intro m meth c P g ig mk a X hg hsize hdg hW hn hp'
  obtain ⟨rfl, rfl, r1, r2⟩ := hp'
  have al : Z.vm.Alike P.U.vm := hZ.alike.trans X.warmed.alike
  obtain ⟨D, fV, fC, hB, F1, F2, g1, g2, -, -⟩ := strObj wi al E V C
  have hx : Txt x t A cd cs.length (fun j => cs.getD j 0) P.U := ⟨⟨_, hB.2.2.1, D, hB.1, rfl, by cases q : D.vm <;> first | rfl | exact absurd q (hB.2.1.2 _)⟩, Has.of hB F1 g1, Has.of hB F2 g2, ⟨K1.1, State.isArrayOf_alike al K1.2.1, K1.2.2, by rcases hcod with ⟨-, q, -⟩ | ⟨-, q, -⟩ <;> omega⟩, hcod, fun j hj => by
    have e : cs.getD j 0 = cs[j] := by simp [List.getD_eq_getElem?_getD, hj]
    show ¬ cs.getD j 0 < 0 ∧ ¬ 65535 < cs.getD j 0
    rw [e]; exact hb _ (List.getElem_mem _)⟩
  obtain ⟨v, B, X', ⟨⟨hv, hh⟩, hl, hk, hs⟩, st⟩ := Len.pays x t A cd cs.length (fun j => cs.getD j 0) z (tabLen_of (movedLen hZ hw)) hfr hlo m meth c P g ig mk _ X hg hsize hdg hW hn ⟨r1, r2, rfl, hx, sta_is al S, hz⟩
  exact ⟨v, B, X', ⟨[], ⟨hv, rfl, hh⟩, hl, hk, hs⟩, st⟩
end StrChars.Road
namespace StrChars
open Jvm Sem ClassFile Op Lib Jvm.Stand Jvm.Free.XT Jvm.Free.ALB Jvm.Free.JM Jvm.Free
open Jvm.Lib.Cold (StaticIs)
/-- what place i of a byte[]'s cell holds -/
def yv (A : Cell) (i : Nat) : Int32 := match A.slots[i]? with | some (.int x) => x | _ => 0
theorem yv_get {a : Addr} {A : Cell} {U : State} (h : XT.Arr .byte a A U) (ht : Typed .byte A) {i : Nat} (hi : i < A.slots.size) : A.slots[i]? = some (.int (yv A i)) := by
  have e := Array.getElem?_eq_getElem hi
  have f := ht i _ e
  unfold yv; rw [e]
  generalize A.slots[i] = v at f
  cases v <;> simp [fits] at f ⊢
/-- the two arrays are equal, place for place -/
def EqC (A B : Cell) : Prop := A.slots.size = B.slots.size ∧ ∀ i, i < A.slots.size → yv A i = yv B i
/-- a boolean that says whether p -/
def Says01 (q : Prop) (r : Option Value) (s u : State) : Prop := ∃ v : Int32, r = some (.int v) ∧ u.heap = s.heap ∧ ((v = 1 ∧ q) ∨ (v = 0 ∧ ¬ q))
theorem Says01.mv {q : Prop} : ∀ r (U U' V V' : State), U'.heap = U.heap → V.vm.Alike V'.vm → V'.heap = V.heap → Says01 q r U V → Says01 q r U' V' :=
  fun r U U' V V' h1 _ h2 ⟨v, a, b, c⟩ => ⟨v, a, by rw [h1, h2]; exact b, c⟩
namespace LEq
def yN : MethodName := ⟨"java/lang/StringLatin1", "equals", "([B[B)Z"⟩
abbrev yB : ByteArray := jdk_43_method_13_code
theorem d0 : decode yB 0 = .ok (.aload_n 0, 1) := by decide +kernel
theorem d1 : decode yB 1 = .ok (.arraylength, 1) := by decide +kernel
theorem d2 : decode yB 2 = .ok (.aload_n 1, 1) := by decide +kernel
theorem d3 : decode yB 3 = .ok (.arraylength, 1) := by decide +kernel
theorem d4 : decode yB 4 = .ok (.if_icmp (.ne) 30, 3) := by decide +kernel
theorem d7 : decode yB 7 = .ok (.iconst 0, 1) := by decide +kernel
theorem d8 : decode yB 8 = .ok (.istore_n 2, 1) := by decide +kernel
theorem d9 : decode yB 9 = .ok (.iload_n 2, 1) := by decide +kernel
theorem d10 : decode yB 10 = .ok (.aload_n 0, 1) := by decide +kernel
theorem d11 : decode yB 11 = .ok (.arraylength, 1) := by decide +kernel
theorem d12 : decode yB 12 = .ok (.if_icmp (.ge) 20, 3) := by decide +kernel
theorem d15 : decode yB 15 = .ok (.aload_n 0, 1) := by decide +kernel
theorem d16 : decode yB 16 = .ok (.iload_n 2, 1) := by decide +kernel
theorem d17 : decode yB 17 = .ok (.baload, 1) := by decide +kernel
theorem d18 : decode yB 18 = .ok (.aload_n 1, 1) := by decide +kernel
theorem d19 : decode yB 19 = .ok (.iload_n 2, 1) := by decide +kernel
theorem d20 : decode yB 20 = .ok (.baload, 1) := by decide +kernel
theorem d21 : decode yB 21 = .ok (.if_icmp (.eq) 5, 3) := by decide +kernel
theorem d24 : decode yB 24 = .ok (.iconst 0, 1) := by decide +kernel
theorem d25 : decode yB 25 = .ok (.ireturn, 1) := by decide +kernel
theorem d26 : decode yB 26 = .ok (.iinc 2 1, 3) := by decide +kernel
theorem d29 : decode yB 29 = .ok (.goto (-20), 3) := by decide +kernel
theorem d32 : decode yB 32 = .ok (.iconst 1, 1) := by decide +kernel
theorem d33 : decode yB 33 = .ok (.ireturn, 1) := by decide +kernel
theorem d34 : decode yB 34 = .ok (.iconst 0, 1) := by decide +kernel
theorem d35 : decode yB 35 = .ok (.ireturn, 1) := by decide +kernel
def site : List Cond := []
def tab : Cond := tabOf yN yB 3 (some .boolean) site
def P (a : Addr) (A : Cell) (b : Addr) (B : Cell) (args : Array Value) (s : State) : Prop := args = #[.ref a, .ref b] ∧ XT.Arr .byte a A s ∧ Typed .byte A ∧ XT.Arr .byte b B s ∧ Typed .byte B
/-- whether two byte[] are equal, place for place -/
theorem law (l : Launch) (a : Addr) (A : Cell) (b : Addr) (B : Cell) : Law l yN 2 2 0 0 yB 3 (some .boolean) site (P a A b B) (Says01 (EqC A B)) [] 0 0 := by
  refine Law.of_walk (plainFor_of_name (by decide +kernel)) (by decide +kernel) (by decide +kernel) (by decide) (fun _ _ h => by rw [h.1]; rfl) (fun _ U U' hal hh h => ⟨h.1, h.2.1.mv hal hh, h.2.2.1, h.2.2.2.1.mv hal hh, h.2.2.2.2⟩) (fun r U U' V V' h1 hal h2 h => Says01.mv r U U' V V' h1 hal h2 h) ?_
  intro p e s m args below meth c s₁ X0 hexec hbytes hml hret hlk hnm hown hh0 W hP
  obtain ⟨rfl, hA, tA, hB, tB⟩ := hP
  have a31 := hA.2.2.2
  have b31 := hB.2.2.2
  have hA0 := hA.mv X0.warmed.alike hh0
  have hB0 := hB.mv X0.warmed.alike hh0
  have c1 : Steps p.tables e below (s₁.setTop (entryFrame m #[.ref a, .ref b] 3)) (s₁.setTop (mkF m 0 #[.val (.ref a), .val (.ref b), .unset] [])) := entry rfl
  have c2 : Steps p.tables e below (s₁.setTop (entryFrame m #[.ref a, .ref b] 3)) (s₁.setTop (mkF m 4 #[.val (.ref a), .val (.ref b), .unset] [.int (Int32.ofNat B.slots.size), .int (Int32.ofNat A.slots.size)])) := c1.trans (by
    refine XS.aloadN X0.here hexec rfl (hb hbytes d0) rfl rfl ?_
    refine X0.alen hexec hA0 rfl rfl (hb hbytes d1) ?_
    refine XS.aloadN X0.here hexec rfl (hb hbytes d2) rfl rfl ?_
    refine X0.alen hexec hB0 rfl rfl (hb hbytes d3) ?_
    exact Steps.refl _)
  by_cases hs : A.slots.size = B.slots.size
  · have c3 : Steps p.tables e below (s₁.setTop (entryFrame m #[.ref a, .ref b] 3)) (s₁.setTop (mkF m 9 #[.val (.ref a), .val (.ref b), .val (.int 0)] [])) := c2.trans (by
      refine XS.icmpNo X0.here hexec rfl (hb hbytes d4) rfl (ii_ne_f (by rw [hs])) ?_
      refine iconstV X0.here hexec rfl 0 (hb hbytes d7) (by decide) ?_
      refine XS.istoreN X0.here hexec rfl (hb hbytes d8) rfl rfl ?_
      exact Steps.refl _)
    have loop : ∀ (r i : Nat), i + r = A.slots.size → (∀ j, j < i → yv A j = yv B j) → Steps p.tables e below (s₁.setTop (entryFrame m #[.ref a, .ref b] 3)) (s₁.setTop (mkF m 9 #[.val (.ref a), .val (.ref b), .val (.int (Int32.ofNat i))] [])) → ∃ (pc : Nat) (Ls : Array Slot) (v : Int32), (pc = 25 ∨ pc = 33) ∧ ((v = 1 ∧ EqC A B) ∨ (v = 0 ∧ ¬ EqC A B)) ∧ Steps p.tables e below (s₁.setTop (entryFrame m #[.ref a, .ref b] 3)) (s₁.setTop (mkF m pc Ls [.int v])) := by
      intro r
      induction r with
      | zero =>
        intro i hi he cl
        exact ⟨33, _, 1, Or.inr rfl, Or.inl ⟨rfl, hs, fun j hj => he j (by omega)⟩, cl.trans (by
          refine XS.iloadN X0.here hexec rfl (hb hbytes d9) rfl ?_
          refine XS.aloadN X0.here hexec rfl (hb hbytes d10) rfl rfl ?_
          refine X0.alen hexec hA0 rfl rfl (hb hbytes d11) ?_
          refine XS.icmpYes X0.here hexec rfl (pc0 := 12) rfl (hb hbytes d12) rfl (ii_ge_t (nlt32 (by omega) (by omega))) (by decide) rfl ?_
          refine iconstV X0.here hexec rfl 1 (hb hbytes d32) (by decide) ?_
          exact Steps.refl _)⟩
      | succ r ih =>
        intro i hi he cl
        have c4 : Steps p.tables e below (s₁.setTop (entryFrame m #[.ref a, .ref b] 3)) (s₁.setTop (mkF m 21 #[.val (.ref a), .val (.ref b), .val (.int (Int32.ofNat i))] [.int (yv B i), .int (yv A i)])) := cl.trans (by
          refine XS.iloadN X0.here hexec rfl (hb hbytes d9) rfl ?_
          refine XS.aloadN X0.here hexec rfl (hb hbytes d10) rfl rfl ?_
          refine X0.alen hexec hA0 rfl rfl (hb hbytes d11) ?_
          refine XS.icmpNo X0.here hexec rfl (hb hbytes d12) rfl (ii_ge_f (lt32 (by omega) (by omega))) ?_
          refine XS.aloadN X0.here hexec rfl (hb hbytes d15) rfl rfl ?_
          refine XS.iloadN X0.here hexec rfl (hb hbytes d16) rfl ?_
          refine X0.aget hexec hA0 rfl (yv_get hA tA (i := i) (by omega)) rfl rfl (hb hbytes d17) ?_
          refine XS.aloadN X0.here hexec rfl (hb hbytes d18) rfl rfl ?_
          refine XS.iloadN X0.here hexec rfl (hb hbytes d19) rfl ?_
          refine X0.aget hexec hB0 rfl (yv_get hB tB (i := i) (by omega)) rfl rfl (hb hbytes d20) ?_
          exact Steps.refl _)
        by_cases hv : yv A i = yv B i
        · have c5 : Steps p.tables e below (s₁.setTop (entryFrame m #[.ref a, .ref b] 3)) (s₁.setTop (mkF m 9 #[.val (.ref a), .val (.ref b), .val (.int (Int32.ofNat i + 1))] [])) := c4.trans (by
            refine XS.icmpYes X0.here hexec rfl (pc0 := 21) rfl (hb hbytes d21) rfl (ii_eq_t hv) (by decide) rfl ?_
            refine iincV X0.here hexec rfl 1 (hb hbytes d26) (by decide) rfl rfl ?_
            refine XS.goto X0.here hexec rfl (pc0 := 29) rfl (hb hbytes d29) (by decide) rfl ?_
            exact Steps.refl _)
          rw [succ32] at c5
          exact ih (i + 1) (by omega) (fun j hj => by
            by_cases e : j = i
            · rw [e]; exact hv
            · exact he j (by omega)) c5
        · exact ⟨25, _, 0, Or.inl rfl, Or.inr ⟨rfl, fun q => hv (q.2 i (by omega))⟩, c4.trans (by
            refine XS.icmpNo X0.here hexec rfl (hb hbytes d21) rfl (ii_eq_f hv) ?_
            refine iconstV X0.here hexec rfl 0 (hb hbytes d24) (by decide) ?_
            exact Steps.refl _)⟩
    obtain ⟨pc, Ls, v, hpc, hv, cz⟩ := loop A.slots.size 0 (by omega) (fun j hj => absurd hj (Nat.not_lt_zero j)) c3
    have nv : narrow .boolean (.int v) = .int v := by rcases hv with ⟨rfl, -⟩ | ⟨rfl, -⟩ <;> rfl
    rcases hpc with rfl | rfl
    · exact ⟨s₁, some (.int v), _, _, _, X0, rfl, rfl, rfl, (fun h => by cases h), ⟨v, rfl, hh0, hv⟩, fun fs hl => cz.trans (X0.ireturnOut hexec hret nv (Or.inr (Or.inl rfl)) (hb hbytes d25) hl)⟩
    · exact ⟨s₁, some (.int v), _, _, _, X0, rfl, rfl, rfl, (fun h => by cases h), ⟨v, rfl, hh0, hv⟩, fun fs hl => cz.trans (X0.ireturnOut hexec hret nv (Or.inr (Or.inl rfl)) (hb hbytes d33) hl)⟩
  · have c3 : Steps p.tables e below (s₁.setTop (entryFrame m #[.ref a, .ref b] 3)) (s₁.setTop (mkF m 35 #[.val (.ref a), .val (.ref b), .unset] [.int 0])) := c2.trans (by
      refine XS.icmpYes X0.here hexec rfl (pc0 := 4) rfl (hb hbytes d4) rfl (ii_ne_t (ne32 a31 b31 hs)) (by decide) rfl ?_
      refine iconstV X0.here hexec rfl 0 (hb hbytes d34) (by decide) ?_
      exact Steps.refl _)
    exact ⟨s₁, some (.int 0), _, _, _, X0, rfl, rfl, rfl, (fun h => by cases h), ⟨0, rfl, hh0, Or.inr ⟨rfl, fun q => hs q.1⟩⟩, fun fs hl => c3.trans (X0.ireturnOut hexec hret rfl (Or.inr (Or.inl rfl)) (hb hbytes d35) hl)⟩
end LEq
theorem Cod.ty {cd : Int32} {n : Nat} {f : Nat → Int32} {V : Cell} (h : Cod cd n f V) : Typed .byte V := fun i v hv => by
  have hi : i < V.slots.size := (Array.getElem?_eq_some_iff.mp hv).1
  rcases h with ⟨-, k1, k2⟩ | ⟨-, k1, k2, -⟩
  · rw [(k2 i (by omega)).1] at hv; cases hv; exact fits_lo8 _
  · rcases Nat.mod_two_eq_zero_or_one i with e | e
    · obtain ⟨j, rfl⟩ : ∃ j, i = 2 * j := ⟨i / 2, by omega⟩
      rw [(k2 j (by omega)).1] at hv; cases hv; exact fits_lo8 _
    · obtain ⟨j, rfl⟩ : ∃ j, i = 2 * j + 1 := ⟨i / 2, by omega⟩
      rw [(k2 j (by omega)).2] at hv; cases hv; exact fits_lo8 _
/-- the same text -/
def SameT (n : Nat) (f : Nat → Int32) (k : Nat) (g : Nat → Int32) : Prop := n = k ∧ ∀ j, j < n → f j = g j
theorem lo8_inj {x y : Int32} (h0 : ¬ x < 0) (h1 : ¬ 255 < x) (k0 : ¬ y < 0) (k1 : ¬ 255 < y) (h : lo8 x = lo8 y) : x = y := by
  rw [← lo8_mask h0 h1, ← lo8_mask k0 k1, h]
/-- arrays coded by one coder are equal just where the texts are -/
theorem Cod.eqv {cd : Int32} {n k : Nat} {f g : Nat → Int32} {V V' : Cell} (h : Cod cd n f V) (h' : Cod cd k g V') (hf : ∀ j, j < n → ¬ f j < 0 ∧ ¬ 65535 < f j) (hg : ∀ j, j < k → ¬ g j < 0 ∧ ¬ 65535 < g j) : EqC V V' ↔ SameT n f k g := by
  have yvv : ∀ {W : Cell} {i : Nat} {x : Int32}, W.slots[i]? = some (.int x) → yv W i = x := fun q => by unfold yv; rw [q]
  rcases h with ⟨rfl, k1, k2⟩ | ⟨rfl, k1, k2, -⟩
  · rcases h' with ⟨-, m1, m2⟩ | ⟨e, -⟩
    · constructor
      · rintro ⟨e1, e2⟩
        refine ⟨by omega, fun j hj => ?_⟩
        have q := e2 j (by omega)
        rw [yvv (k2 j hj).1, yvv (m2 j (by omega)).1] at q
        exact lo8_inj (hf j hj).1 (k2 j hj).2 (hg j (by omega)).1 (m2 j (by omega)).2 q
      · rintro ⟨rfl, e2⟩
        refine ⟨by omega, fun j hj => ?_⟩
        rw [yvv (k2 j (by omega)).1, yvv (m2 j (by omega)).1, e2 j (by omega)]
    · exact absurd e (by decide)
  · rcases h' with ⟨e, -⟩ | ⟨-, m1, m2, -⟩
    · exact absurd e (by decide)
    · constructor
      · rintro ⟨e1, e2⟩
        refine ⟨by omega, fun j hj => ?_⟩
        have q1 := e2 (2 * j) (by omega)
        have q2 := e2 (2 * j + 1) (by omega)
        rw [yvv (k2 j hj).1, yvv (m2 j (by omega)).1] at q1
        rw [yvv (k2 j hj).2, yvv (m2 j (by omega)).2] at q2
        rw [← pair_says (hf j hj).1 (hf j hj).2, ← pair_says (hg j (by omega)).1 (hg j (by omega)).2, q1, q2]
      · rintro ⟨rfl, e2⟩
        refine ⟨by omega, fun i hi => ?_⟩
        rcases Nat.mod_two_eq_zero_or_one i with e | e
        · obtain ⟨j, rfl⟩ : ∃ j, i = 2 * j := ⟨i / 2, by omega⟩
          rw [yvv (k2 j (by omega)).1, yvv (m2 j (by omega)).1, e2 j (by omega)]
        · obtain ⟨j, rfl⟩ : ∃ j, i = 2 * j + 1 := ⟨i / 2, by omega⟩
          rw [yvv (k2 j (by omega)).2, yvv (m2 j (by omega)).2, e2 j (by omega)]
/-- two codings differ: so do the texts -/
theorem Cod.dif {cd cd' : Int32} {n k : Nat} {f g : Nat → Int32} {V V' : Cell} (h : Cod cd n f V) (h' : Cod cd' k g V') (hne : ¬ cd = cd') : ¬ SameT n f k g := by
  rintro ⟨rfl, e⟩
  rcases h with ⟨rfl, -, k2⟩ | ⟨rfl, -, -, j, hj, hw⟩
  · rcases h' with ⟨rfl, -⟩ | ⟨-, -, -, j, hj, hw⟩
    · exact hne rfl
    · exact (k2 j hj).2 (by rw [e j hj]; exact hw)
  · rcases h' with ⟨-, -, m2⟩ | ⟨rfl, -⟩
    · exact (m2 j hj).2 (by rw [← e j hj]; exact hw)
    · exact hne rfl
/-- an object of exactly C is an instance of C -/
theorem cinst {p : Program} {l : Launch} {e : Env} {R : Room} {s : State} {m : MethodId} {args : Array Value} {below : List Frame} {meth : Method} {c : Code} {T : State} {locs : List Loc} {cells slots : Nat} (X : Stand p l e R s m args below meth c T locs cells slots) (hexec : p.tables.exec = Jvm.exec) {own C : String} {index : Nat} (hown : s.vm.findClass own = some m.cls) (hlink : (Cond.classLink own index C).before args s = true) {a : Addr} (hE : Exact C a T)
    {g : JFrame} (hg : g.method = m) {rest : List Value} (hstack : g.stack = .ref a :: rest) (hdg : decode c.code g.pc = .ok (.instanceof index, 3)) :
    ∃ T', Stand p l e R s m args below meth c T' locs cells slots ∧ T'.heap = T.heap ∧ ∀ target, Steps p.tables e below (T'.setTop { g with pc := g.pc + 3, stack := .int 1 :: rest }) target → Steps p.tables e below (T.setTop g) target := by
  obtain ⟨cB, h1, D, h2, h3, h4⟩ := hE
  have h1' : s.vm.findClass C = some cB := by rw [← X.warmed.alike.findClass]; exact h1
  obtain ⟨vm', X', st⟩ := X.instanceofYes hexec hown hlink h2 h4 h1' (by rw [h3]; exact Jvm.Free.SB.assignable_self _ _) hg hstack hdg
  exact ⟨_, X', rfl, st⟩
theorem cself {p : Program} {l : Launch} {e : Env} {R : Room} {s : State} {m : MethodId} {args : Array Value} {below : List Frame} {meth : Method} {c : Code} {T : State} {locs : List Loc} {cells slots : Nat} (X : Stand p l e R s m args below meth c T locs cells slots) (hexec : p.tables.exec = Jvm.exec) {own C : String} {index : Nat} (hown : s.vm.findClass own = some m.cls) (hlink : (Cond.classLink own index C).before args s = true) {a : Addr} (hE : Exact C a T)
    {g : JFrame} (hg : g.method = m) {rest : List Value} (hstack : g.stack = .ref a :: rest) (hdg : decode c.code g.pc = .ok (.checkcast index, 3)) :
    ∃ T', Stand p l e R s m args below meth c T' locs cells slots ∧ T'.heap = T.heap ∧ ∀ target, Steps p.tables e below (T'.setTop { g with pc := g.pc + 3, stack := .ref a :: rest }) target → Steps p.tables e below (T.setTop g) target := by
  obtain ⟨cB, h1, D, h2, h3, h4⟩ := hE
  have h1' : s.vm.findClass C = some cB := by rw [← X.warmed.alike.findClass]; exact h1
  obtain ⟨vm', X', st⟩ := X.checkcastYes hexec hown hlink h2 h4 h1' (by rw [h3]; exact Jvm.Free.SB.assignable_self _ _) hg hstack hdg
  exact ⟨_, X', rfl, fun t h => st t (by rw [← hstack] at h; exact h)⟩
namespace SEq
def yN : MethodName := ⟨"java/lang/String", "equals", "(Ljava/lang/Object;)Z"⟩
abbrev yB : ByteArray := jdk_42_method_66_code
theorem d0 : decode yB 0 = .ok (.aload_n 0, 1) := by decide +kernel
theorem d1 : decode yB 1 = .ok (.aload_n 1, 1) := by decide +kernel
theorem d2 : decode yB 2 = .ok (.if_acmp (.ne) 5, 3) := by decide +kernel
theorem d5 : decode yB 5 = .ok (.iconst 1, 1) := by decide +kernel
theorem d6 : decode yB 6 = .ok (.ireturn, 1) := by decide +kernel
theorem d7 : decode yB 7 = .ok (.aload_n 1, 1) := by decide +kernel
theorem d8 : decode yB 8 = .ok (.instanceof 10, 3) := by decide +kernel
theorem d11 : decode yB 11 = .ok (.ifCond (.eq) 43, 3) := by decide +kernel
theorem d14 : decode yB 14 = .ok (.aload_n 1, 1) := by decide +kernel
theorem d15 : decode yB 15 = .ok (.checkcast 10, 3) := by decide +kernel
theorem d18 : decode yB 18 = .ok (.astore_n 2, 1) := by decide +kernel
theorem d19 : decode yB 19 = .ok (.getstatic 38, 3) := by decide +kernel
theorem d22 : decode yB 22 = .ok (.ifCond (.eq) 14, 3) := by decide +kernel
theorem d25 : decode yB 25 = .ok (.aload_n 0, 1) := by decide +kernel
theorem d26 : decode yB 26 = .ok (.getfield 15, 3) := by decide +kernel
theorem d29 : decode yB 29 = .ok (.aload_n 2, 1) := by decide +kernel
theorem d30 : decode yB 30 = .ok (.getfield 15, 3) := by decide +kernel
theorem d33 : decode yB 33 = .ok (.if_icmp (.ne) 21, 3) := by decide +kernel
theorem d36 : decode yB 36 = .ok (.aload_n 0, 1) := by decide +kernel
theorem d37 : decode yB 37 = .ok (.getfield 9, 3) := by decide +kernel
theorem d40 : decode yB 40 = .ok (.aload_n 2, 1) := by decide +kernel
theorem d41 : decode yB 41 = .ok (.getfield 9, 3) := by decide +kernel
theorem d44 : decode yB 44 = .ok (.invokestatic 541, 3) := by decide +kernel
theorem d47 : decode yB 47 = .ok (.ifCond (.eq) 7, 3) := by decide +kernel
theorem d50 : decode yB 50 = .ok (.iconst 1, 1) := by decide +kernel
theorem d51 : decode yB 51 = .ok (.goto 4, 3) := by decide +kernel
theorem d54 : decode yB 54 = .ok (.iconst 0, 1) := by decide +kernel
theorem d55 : decode yB 55 = .ok (.ireturn, 1) := by decide +kernel
def site : List Cond := [.classLink "java/lang/String" 10 "java/lang/String", .fieldLink "java/lang/String" 38 "java/lang/String" "COMPACT_STRINGS" "Z", .fieldLink "java/lang/String" 15 "java/lang/String" "coder" "B", .fieldLink "java/lang/String" 9 "java/lang/String" "value" "[B", LEq.tab] ++ staticW "java/lang/String" 541 LEq.yN
def tab : Cond := tabOf yN yB 3 (some .boolean) site
def P (x t : Addr) (V : Cell) (cd : Int32) (n : Nat) (f : Nat → Int32) (y t' : Addr) (V' : Cell) (cd' : Int32) (k : Nat) (g : Nat → Int32) (z : Int32) (args : Array Value) (s : State) : Prop := args = #[.ref x, .ref y] ∧ Txt x t V cd n f s ∧ Txt y t' V' cd' k g s ∧ StaticIs s "java/lang/String" "COMPACT_STRINGS" "Z" (.int z) ∧ ¬ z = 0
/-- equals(Object) of two Strings: whether the texts are the same -/
theorem law (l : Launch) (x t : Addr) (V : Cell) (cd : Int32) (n : Nat) (f : Nat → Int32) (y t' : Addr) (V' : Cell) (cd' : Int32) (k : Nat) (g : Nat → Int32) (z : Int32) : Law l yN 2 1 1 14 yB 3 (some .boolean) site (P x t V cd n f y t' V' cd' k g z) (Says01 (SameT n f k g)) [] 0 0 := by
  refine Law.of_walk (plainFor_of_name (by decide +kernel)) (by decide +kernel) (by decide +kernel) (by decide) (fun _ _ h => by rw [h.1]; rfl) (fun _ U U' hal hh h => ⟨h.1, h.2.1.mv hal hh, h.2.2.1.mv hal hh, h.2.2.2.1.there hal hh, h.2.2.2.2⟩) (fun r U U' V V' h1 hal h2 h => Says01.mv r U U' V V' h1 hal h2 h) ?_
  intro p e s m args below meth c s₁ X0 hexec hbytes hml hret hlk hnm hown hh0 W hP
  obtain ⟨rfl, hx, hy, s1, hz⟩ := hP
  have c1 : Steps p.tables e below (s₁.setTop (entryFrame m #[.ref x, .ref y] 3)) (s₁.setTop (mkF m 2 #[.val (.ref x), .val (.ref y), .unset] [.ref y, .ref x])) := Steps.trans (entry rfl) (by
    show Steps p.tables e below (s₁.setTop (mkF m 0 #[.val (.ref x), .val (.ref y), .unset] [])) _
    refine XS.aloadN X0.here hexec rfl (hb hbytes d0) rfl rfl ?_
    refine XS.aloadN X0.here hexec rfl (hb hbytes d1) rfl rfl ?_
    exact Steps.refl _)
  by_cases hxy : x = y
  · have c2 : Steps p.tables e below (s₁.setTop (entryFrame m #[.ref x, .ref y] 3)) (s₁.setTop (mkF m 6 #[.val (.ref x), .val (.ref y), .unset] [.int 1])) := c1.trans (by
      refine acmpNo X0.here hexec rfl (hb hbytes d2) rfl rfl rfl (by simp [acmp, hxy]) ?_
      refine iconstV X0.here hexec rfl 1 (hb hbytes d5) (by decide) ?_
      exact Steps.refl _)
    subst hxy
    have ec : cd = cd' := by
      obtain ⟨D, fd, a1, a2, a3⟩ := hx.2.2.1
      obtain ⟨D', fd', b1, b2, b3⟩ := hy.2.2.1
      cases a1.symm.trans b1
      obtain ⟨q1, q2, q3, q4⟩ := a2.1
      obtain ⟨r1, r2, r3, r4⟩ := b2.1
      cases q4.symm.trans r4
      cases a3.symm.trans b3; rfl
    have et : t = t' := by
      obtain ⟨D, fd, a1, a2, a3⟩ := hx.2.1
      obtain ⟨D', fd', b1, b2, b3⟩ := hy.2.1
      cases a1.symm.trans b1
      obtain ⟨q1, q2, q3, q4⟩ := a2.1
      obtain ⟨r1, r2, r3, r4⟩ := b2.1
      cases q4.symm.trans r4
      cases a3.symm.trans b3; rfl
    subst ec et
    have ev : V = V' := by cases hx.2.2.2.1.1.symm.trans hy.2.2.2.1.1; rfl
    subst ev
    have hs : SameT n f k g := (Cod.eqv hx.2.2.2.2.1 hy.2.2.2.2.1 hx.2.2.2.2.2 hy.2.2.2.2.2).mp ⟨rfl, fun _ _ => rfl⟩
    exact ⟨s₁, some (.int 1), _, _, _, X0, rfl, rfl, rfl, (fun h => by cases h), ⟨1, rfl, hh0, Or.inl ⟨rfl, hs⟩⟩, fun fs hl => c2.trans (X0.ireturnOut hexec hret rfl (Or.inr (Or.inl rfl)) (hb hbytes d6) hl)⟩
  · have c2 : Steps p.tables e below (s₁.setTop (entryFrame m #[.ref x, .ref y] 3)) (s₁.setTop (mkF m 8 #[.val (.ref x), .val (.ref y), .unset] [.ref y])) := c1.trans (by
      refine acmpYes X0.here hexec rfl (pc0 := 2) rfl (hb hbytes d2) rfl rfl rfl (by simp [acmp, hxy]) (by decide) rfl ?_
      refine XS.aloadN X0.here hexec rfl (hb hbytes d7) rfl rfl ?_
      exact Steps.refl _)
    obtain ⟨T3, X3, q3, st3⟩ := cinst X0 hexec hown (wk W (.classLink "java/lang/String" 10 "java/lang/String")) (hy.mv X0.warmed.alike hh0).1 (g := (mkF m 8 #[.val (.ref x), .val (.ref y), .unset] [.ref y])) rfl (rest := []) rfl (hb hbytes d8)
    have hh3 := q3.trans hh0
    have c4 : Steps p.tables e below (s₁.setTop (entryFrame m #[.ref x, .ref y] 3)) (T3.setTop (mkF m 15 #[.val (.ref x), .val (.ref y), .unset] [.ref y])) := (c2.trans (st3 _ (Steps.refl _))).trans (by
      refine XS.ifNo X3.here hexec rfl (hb hbytes d11) rfl (i0_eq_f (by decide)) ?_
      refine XS.aloadN X3.here hexec rfl (hb hbytes d14) rfl rfl ?_
      exact Steps.refl _)
    obtain ⟨T5, X5, q5, st5⟩ := cself X3 hexec hown (wk W (.classLink "java/lang/String" 10 "java/lang/String")) (hy.mv X3.warmed.alike hh3).1 (g := (mkF m 15 #[.val (.ref x), .val (.ref y), .unset] [.ref y])) rfl (rest := []) rfl (hb hbytes d15)
    have hh5 := q5.trans hh3
    have c6 : Steps p.tables e below (s₁.setTop (entryFrame m #[.ref x, .ref y] 3)) (T5.setTop (mkF m 19 #[.val (.ref x), .val (.ref y), .val (.ref y)] [])) := (c4.trans (st5 _ (Steps.refl _))).trans (by
      refine XS.astoreN X5.here hexec rfl (hb hbytes d18) rfl rfl rfl ?_
      exact Steps.refl _)
    obtain ⟨T7, X7, q7, st7⟩ := X5.sget hexec hown (wk W (.fieldLink "java/lang/String" 38 "java/lang/String" "COMPACT_STRINGS" "Z")) s1 (fun _ _ h => by rw [hh5]; exact h) (g := (mkF m 19 #[.val (.ref x), .val (.ref y), .val (.ref y)] [])) rfl (hb hbytes d19)
    have hh7 := q7.trans hh5
    have c8 : Steps p.tables e below (s₁.setTop (entryFrame m #[.ref x, .ref y] 3)) (T7.setTop (mkF m 26 #[.val (.ref x), .val (.ref y), .val (.ref y)] [.ref x])) := (c6.trans (st7 _ (Steps.refl _))).trans (by
      refine XS.ifNo X7.here hexec rfl (hb hbytes d22) rfl (i0_eq_f hz) ?_
      refine XS.aloadN X7.here hexec rfl (hb hbytes d25) rfl rfl ?_
      exact Steps.refl _)
    obtain ⟨T9, X9, q9, st9⟩ := X7.hget hexec hown (wk W (.fieldLink "java/lang/String" 15 "java/lang/String" "coder" "B")) (hx.mv X7.warmed.alike hh7).2.2.1 (g := (mkF m 26 #[.val (.ref x), .val (.ref y), .val (.ref y)] [.ref x])) rfl (rest := []) rfl (hb hbytes d26)
    have hh9 := q9.trans hh7
    have c10 : Steps p.tables e below (s₁.setTop (entryFrame m #[.ref x, .ref y] 3)) (T9.setTop (mkF m 30 #[.val (.ref x), .val (.ref y), .val (.ref y)] [.ref y, .int cd])) := (c8.trans (st9 _ (Steps.refl _))).trans (by
      refine XS.aloadN X9.here hexec rfl (hb hbytes d29) rfl rfl ?_
      exact Steps.refl _)
    obtain ⟨T11, X11, q11, st11⟩ := X9.hget hexec hown (wk W (.fieldLink "java/lang/String" 15 "java/lang/String" "coder" "B")) (hy.mv X9.warmed.alike hh9).2.2.1 (g := (mkF m 30 #[.val (.ref x), .val (.ref y), .val (.ref y)] [.ref y, .int cd])) rfl (rest := [.int cd]) rfl (hb hbytes d30)
    have hh11 := q11.trans hh9
    have c12 : Steps p.tables e below (s₁.setTop (entryFrame m #[.ref x, .ref y] 3)) (T11.setTop (mkF m 33 #[.val (.ref x), .val (.ref y), .val (.ref y)] [.int cd', .int cd])) := c10.trans (st11 _ (Steps.refl _))
    by_cases hcd : cd = cd'
    · subst hcd
      have c13 : Steps p.tables e below (s₁.setTop (entryFrame m #[.ref x, .ref y] 3)) (T11.setTop (mkF m 37 #[.val (.ref x), .val (.ref y), .val (.ref y)] [.ref x])) := c12.trans (by
        refine XS.icmpNo X11.here hexec rfl (hb hbytes d33) rfl (ii_ne_f rfl) ?_
        refine XS.aloadN X11.here hexec rfl (hb hbytes d36) rfl rfl ?_
        exact Steps.refl _)
      obtain ⟨T14, X14, q14, st14⟩ := X11.hget hexec hown (wk W (.fieldLink "java/lang/String" 9 "java/lang/String" "value" "[B")) (hx.mv X11.warmed.alike hh11).2.1 (g := (mkF m 37 #[.val (.ref x), .val (.ref y), .val (.ref y)] [.ref x])) rfl (rest := []) rfl (hb hbytes d37)
      have hh14 := q14.trans hh11
      have c15 : Steps p.tables e below (s₁.setTop (entryFrame m #[.ref x, .ref y] 3)) (T14.setTop (mkF m 41 #[.val (.ref x), .val (.ref y), .val (.ref y)] [.ref y, .ref t])) := (c13.trans (st14 _ (Steps.refl _))).trans (by
        refine XS.aloadN X14.here hexec rfl (hb hbytes d40) rfl rfl ?_
        exact Steps.refl _)
      obtain ⟨T16, X16, q16, st16⟩ := X14.hget hexec hown (wk W (.fieldLink "java/lang/String" 9 "java/lang/String" "value" "[B")) (hy.mv X14.warmed.alike hh14).2.1 (g := (mkF m 41 #[.val (.ref x), .val (.ref y), .val (.ref y)] [.ref y, .ref t])) rfl (rest := [.ref t]) rfl (hb hbytes d41)
      have hh16 := q16.trans hh14
      have c17 : Steps p.tables e below (s₁.setTop (entryFrame m #[.ref x, .ref y] 3)) (T16.setTop (mkF m 44 #[.val (.ref x), .val (.ref y), .val (.ref y)] [.ref t', .ref t])) := c15.trans (st16 _ (Steps.refl _))
      obtain ⟨v18, T18, X18, E18, g18⟩ := X16.callS hexec (LEq.law l t V t' V') hown (wks W (staticW "java/lang/String" 541 LEq.yN)) (wk W LEq.tab) (W := 0) (Nat.le_of_ble_eq_true rfl) (Nat.le_of_ble_eq_true rfl) (Nat.le_refl _) (Nat.le_refl _) (g := (mkF m 44 #[.val (.ref x), .val (.ref y), .val (.ref y)] [.ref t', .ref t])) rfl (by rw [hml]; rfl) c17 (argsL := [.ref t, .ref t']) (rest := []) rfl rfl (by show 2 * 0 + 0 ≤ _; decide) (hb hbytes d44) (⟨rfl, hx.2.2.2.1.mv X16.warmed.alike hh16, hx.2.2.2.2.1.ty, hy.2.2.2.1.mv X16.warmed.alike hh16, hy.2.2.2.2.1.ty⟩)
      obtain ⟨v, rfl, q18, hv⟩ := E18
      have iff := Cod.eqv hx.2.2.2.2.1 hy.2.2.2.2.1 hx.2.2.2.2.2 hy.2.2.2.2.2
      rcases hv with ⟨rfl, he⟩ | ⟨rfl, he⟩
      · have c19 : Steps p.tables e below (s₁.setTop (entryFrame m #[.ref x, .ref y] 3)) (T18.setTop (mkF m 55 #[.val (.ref x), .val (.ref y), .val (.ref y)] [.int 1])) := Steps.trans g18 (by
          refine XS.ifNo X18.here hexec rfl (hb hbytes d47) rfl (i0_eq_f (by decide)) ?_
          refine iconstV X18.here hexec rfl 1 (hb hbytes d50) (by decide) ?_
          refine XS.goto X18.here hexec rfl (pc0 := 51) rfl (hb hbytes d51) (by decide) rfl ?_
          exact Steps.refl _)
        exact ⟨T18, some (.int 1), _, _, _, X18, rfl, rfl, rfl, (fun h => by cases h), ⟨1, rfl, q18.trans hh16, Or.inl ⟨rfl, iff.mp he⟩⟩, fun fs hl => c19.trans (X18.ireturnOut hexec hret rfl (Or.inr (Or.inl rfl)) (hb hbytes d55) hl)⟩
      · have c19 : Steps p.tables e below (s₁.setTop (entryFrame m #[.ref x, .ref y] 3)) (T18.setTop (mkF m 55 #[.val (.ref x), .val (.ref y), .val (.ref y)] [.int 0])) := Steps.trans g18 (by
          refine XS.ifYes X18.here hexec rfl (pc0 := 47) rfl (hb hbytes d47) rfl (i0_eq_t rfl) (by decide) rfl ?_
          refine iconstV X18.here hexec rfl 0 (hb hbytes d54) (by decide) ?_
          exact Steps.refl _)
        exact ⟨T18, some (.int 0), _, _, _, X18, rfl, rfl, rfl, (fun h => by cases h), ⟨0, rfl, q18.trans hh16, Or.inr ⟨rfl, fun q => he (iff.mpr q)⟩⟩, fun fs hl => c19.trans (X18.ireturnOut hexec hret rfl (Or.inr (Or.inl rfl)) (hb hbytes d55) hl)⟩
    · have c13 : Steps p.tables e below (s₁.setTop (entryFrame m #[.ref x, .ref y] 3)) (T11.setTop (mkF m 55 #[.val (.ref x), .val (.ref y), .val (.ref y)] [.int 0])) := c12.trans (by
        refine XS.icmpYes X11.here hexec rfl (pc0 := 33) rfl (hb hbytes d33) rfl (ii_ne_t hcd) (by decide) rfl ?_
        refine iconstV X11.here hexec rfl 0 (hb hbytes d54) (by decide) ?_
        exact Steps.refl _)
      exact ⟨T11, some (.int 0), _, _, _, X11, rfl, rfl, rfl, (fun h => by cases h), ⟨0, rfl, hh11, Or.inr ⟨rfl, Cod.dif hx.2.2.2.2.1 hy.2.2.2.2.1 hcd⟩⟩, fun fs hl => c13.trans (X11.ireturnOut hexec hret rfl (Or.inr (Or.inl rfl)) (hb hbytes d55) hl)⟩
theorem pays {l : Launch} {R : Room} {p : Program} {e : Env} {below : List Frame} {s : State} {sargs : Array Value} {len W : Nat} (x t : Addr) (V : Cell) (cd : Int32) (n : Nat) (f : Nat → Int32) (y t' : Addr) (V' : Cell) (cd' : Int32) (k : Nat) (g : Nat → Int32) (z : Int32) (htab : tab.before sargs s = true) (hfr : 2 ≤ R.frames) (hlo : W + 28 ≤ R.locals) :
    Back l R p e below s sargs yN len W (fun A₁ a₁ => A₁.cells + 0 ≤ R.cells ∧ A₁.slots + 0 ≤ R.slots ∧ P x t V cd n f y t' V' cd' k g z a₁ A₁.U) (fun A₁ _ v₁ B₁ => Says01 (SameT n f k g) v₁ A₁.U B₁.U ∧ B₁.locs = A₁.locs ++ [] ∧ B₁.cells = A₁.cells + 0 ∧ B₁.slots = A₁.slots + 0) :=
  (law l x t V cd n f y t' V' cd' k g z).pays htab hfr (by omega)
end SEq
end StrChars
namespace StrChars.Road
open Jvm Sem ClassFile Op Lib Jvm.Stand Jvm.Free Jvm.Free.XT
open Jvm.Lib.Cold (StaticIs)
/-- the words of String.equals(Object) -/
abbrev wordsEq : List Jvm.Cond := [.code SEq.yN SEq.yB 3 (some .boolean), .initialized ST, .classLink ST 10 ST, .fieldLink ST 38 ST "COMPACT_STRINGS" "Z", .fieldLink ST 15 ST "coder" "B", .fieldLink ST 9 ST "value" "[B", .methodLink ST 541 LEq.yN, .static LEq.yN, .code LEq.yN LEq.yB 3 (some .boolean), .initialized "java/lang/StringLatin1"]
theorem tabEq_of {a : Array Value} {s : State} (h : ∀ w ∈ wordsEq, w.before a s = true) : SEq.tab.before a s = true := by
  have hl : LEq.tab.before a s = true := unparts (wk h (.code LEq.yN LEq.yB 3 (some .boolean))) (wks h (.initialized LEq.yN.cls :: LEq.site))
  have q := consq hl h
  exact unparts (wk q (.code SEq.yN SEq.yB 3 (some .boolean))) (wks q (.initialized SEq.yN.cls :: SEq.site))
theorem movedEq {Z s : State} {a0 args : Array Value} (hZ : Z.Warmed39 s.vm) (hw : ∀ d ∈ wordsEq, d.before a0 Z = true) : ∀ d ∈ wordsEq, d.before args s = true := fun d hd => by
  have t : ∀ d ∈ wordsEq, (d.onTables && d.keepsFace) = true := by decide +kernel
  exact RoadKit.mv hZ (hw d hd) (t d hd)
/-- the road's facts of a String, as the laws ask it -/
theorem txt_of {Z U : State} {a0 : Array Value} {kI : Nat} (wi : (Jvm.Cond.instantiable ST kI).before a0 Z = true) (al : Z.vm.Alike U.vm) {x t : Addr} {kb : ClassId} {cs : List Int32} {cd N2 : Int32} {vs : List Value} (E : RoadKit.Exa Z U.heap x ST) (V : RoadKit.Fld Z U.heap x ST "value" "[B" (.ref t)) (C : RoadKit.Fld Z U.heap x ST "coder" "B" (.int cd)) (K : RoadKit.Arv Z U.heap t kb .byte N2 vs (.int 0)) (hc : CodA cs cd N2 vs) (hb : ∀ c ∈ cs, ¬ c < 0 ∧ ¬ (65535 : Int32) < c) (l2 : cs.length ≤ 4000) :
    ∃ A, Txt x t A cd cs.length (fun j => cs.getD j 0) U := by
  obtain ⟨A, K1, K2, K3, K4, K5, K6⟩ := K
  have hcod := hc.cod (by omega) K3 K5
  obtain ⟨D, fV, fC, hB, F1, F2, g1, g2, -, -⟩ := strObj wi al E V C
  exact ⟨A, ⟨_, hB.2.2.1, D, hB.1, rfl, by cases q : D.vm <;> first | rfl | exact absurd q (hB.2.1.2 _)⟩, Has.of hB F1 g1, Has.of hB F2 g2, ⟨K1.1, State.isArrayOf_alike al K1.2.1, K1.2.2, by rcases hcod with ⟨-, q, -⟩ | ⟨-, q, -⟩ <;> omega⟩, hcod, fun j hj => by
    have e : cs.getD j 0 = cs[j] := by simp [List.getD_eq_getElem?_getD, hj]
    show ¬ cs.getD j 0 < 0 ∧ ¬ 65535 < cs.getD j 0
    rw [e]; exact hb _ (List.getElem_mem _)⟩
theorem same_list (cs ds : List Int32) : SameT cs.length (fun j => cs.getD j 0) ds.length (fun j => ds.getD j 0) ↔ cs = ds := by
  constructor
  · rintro ⟨e, q⟩
    refine List.ext_getElem e fun j h1 h2 => ?_
    have := q j h1
    simpa [List.getD_eq_getElem?_getD, h1, h2] using this
  · rintro rfl
    exact ⟨rfl, fun _ _ => rfl⟩
/-- **equals(Object) OF TWO SUCH STRINGS**: 1 just where the chars are the same -/
theorem eqW {p : Program} {l : Launch} {e : Env} {R : Room} {s : State} {args : Array Value} {below : List Frame} {len W : Nat} {Z : State} {a0 : Array Value} {h : Heap} (hZ : Z.Warmed39 s.vm) (hw : ∀ d ∈ wordsEq, d.before a0 Z = true) {kI : Nat} (wi : (Jvm.Cond.instantiable ST kI).before a0 Z = true)
    {x t : Addr} {kb : ClassId} {cs : List Int32} {cd N2 : Int32} {vs : List Value} (E : RoadKit.Exa Z h x ST) (V : RoadKit.Fld Z h x ST "value" "[B" (.ref t)) (C : RoadKit.Fld Z h x ST "coder" "B" (.int cd)) (K : RoadKit.Arv Z h t kb .byte N2 vs (.int 0)) (hc : CodA cs cd N2 vs) (hb : ∀ c ∈ cs, ¬ c < 0 ∧ ¬ (65535 : Int32) < c) (l2 : cs.length ≤ 4000)
    {y t' : Addr} {kb' : ClassId} {ds : List Int32} {cd' N2' : Int32} {vs' : List Value} (E' : RoadKit.Exa Z h y ST) (V' : RoadKit.Fld Z h y ST "value" "[B" (.ref t')) (C' : RoadKit.Fld Z h y ST "coder" "B" (.int cd')) (K' : RoadKit.Arv Z h t' kb' .byte N2' vs' (.int 0)) (hc' : CodA ds cd' N2' vs') (hb' : ∀ c ∈ ds, ¬ c < 0 ∧ ¬ (65535 : Int32) < c) (l2' : ds.length ≤ 4000)
    {z : Int32} (S : RoadKit.Sta Z h ST "COMPACT_STRINGS" "Z" (.int z)) (hz : ¬ z = 0) (hfr : 2 ≤ R.frames) (hlo : W + 28 ≤ R.locals) :
    Back l R p e below s args (⟨"java/lang/String", "equals", "(Ljava/lang/Object;)Z"⟩ : MethodName) len W (fun P a => a = #[.ref x, .ref y] ∧ P.U.heap = h ∧ P.cells + 0 ≤ R.cells ∧ P.slots + 0 ≤ R.slots)
      (fun P _ v B => ∃ L, (((v = some (.int 1) ∧ cs = ds) ∨ (v = some (.int 0) ∧ ¬ cs = ds)) ∧ L = [] ∧ B.U.heap = h) ∧ B.locs = P.locs ++ L ∧ B.cells = P.cells + 0 ∧ B.slots = P.slots + 0) := by
  intro m meth c P g ig mk a X hg hsize hdg hW hn hp'
  obtain ⟨rfl, rfl, r1, r2⟩ := hp'
  have al : Z.vm.Alike P.U.vm := hZ.alike.trans X.warmed.alike
  obtain ⟨A, hx⟩ := txt_of wi al E V C K hc hb l2
  obtain ⟨A', hy⟩ := txt_of wi al E' V' C' K' hc' hb' l2'
  obtain ⟨v, B, X', ⟨⟨w, hv, hh, hq⟩, hl, hk, hs⟩, st⟩ := SEq.pays x t A cd cs.length (fun j => cs.getD j 0) y t' A' cd' ds.length (fun j => ds.getD j 0) z (tabEq_of (movedEq hZ hw)) hfr hlo m meth c P g ig mk _ X hg hsize hdg hW hn ⟨r1, r2, rfl, hx, hy, sta_is al S, hz⟩
  refine ⟨v, B, X', ⟨[], ⟨?_, rfl, hh⟩, hl, hk, hs⟩, st⟩
  rcases hq with ⟨rfl, q⟩ | ⟨rfl, q⟩
  · exact Or.inl ⟨hv, (same_list cs ds).mp q⟩
  · exact Or.inr ⟨hv, fun e => q ((same_list cs ds).mpr e)⟩
end StrChars.Road
namespace StrChars
open Jvm Sem ClassFile Op Lib Jvm.Stand Jvm.Free.XT Jvm.Free.ALB Jvm.Free.JM Jvm.Free
open Jvm.Lib.Cold (StaticIs)
namespace ChN
def yN : MethodName := ⟨"java/lang/String", "charAt", "(I)C"⟩
abbrev yB : ByteArray := jdk_42_method_56_code
theorem d0 : decode yB 0 = .ok (.aload_n 0, 1) := by decide +kernel
theorem d1 : decode yB 1 = .ok (.invokevirtual 492, 3) := by decide +kernel
theorem d4 : decode yB 4 = .ok (.ifCond (.eq) 12, 3) := by decide +kernel
theorem d7 : decode yB 7 = .ok (.aload_n 0, 1) := by decide +kernel
theorem d8 : decode yB 8 = .ok (.getfield 9, 3) := by decide +kernel
theorem d11 : decode yB 11 = .ok (.iload_n 1, 1) := by decide +kernel
theorem d12 : decode yB 12 = .ok (.invokestatic 495, 3) := by decide +kernel
theorem d15 : decode yB 15 = .ok (.ireturn, 1) := by decide +kernel
def site : List Cond := [.fieldLink "java/lang/String" 9 "java/lang/String" "value" "[B", IsL.tab, LChA.tab] ++ virtW "java/lang/String" 492 "java/lang/String" IsL.yN IsL.yN ++ staticW "java/lang/String" 495 LChA.yN
def tab : Cond := tabOf yN yB 2 (some .char) site
def P (x t : Addr) (V : Cell) (n : Nat) (f : Nat → Int32) (z : Int32) (fm : Value) (i : Nat) (args : Array Value) (s : State) : Prop := args = #[.ref x, .int (Int32.ofNat i)] ∧ Txt x t V 0 n f s ∧ i < n ∧ StaticIs s "java/lang/String" "COMPACT_STRINGS" "Z" (.int z) ∧ ¬ z = 0 ∧ StaticIs s "jdk/internal/util/Preconditions" "SIOOBE_FORMATTER" "Ljava/util/function/BiFunction;" fm ∧ fm.isRef = true
def E (f : Nat → Int32) (i : Nat) (r : Option Value) (s u : State) : Prop := XT.PureE (some (.int (f i))) r s u
/-- charAt(i) of a Latin-1 String of n chars, i < n: f i -/
theorem law (l : Launch) (x t : Addr) (V : Cell) (n : Nat) (f : Nat → Int32) (z : Int32) (fm : Value) (i : Nat) : Law l yN 2 1 3 40 yB 2 (some .char) site (P x t V n f z fm i) (E f i) [] 0 0 := by
  refine Law.of_walk (plainFor_of_name (by decide +kernel)) (by decide +kernel) (by decide +kernel) (by decide) (fun _ _ h => by rw [h.1]; rfl) (fun _ U U' hal hh h => ⟨h.1, h.2.1.mv hal hh, h.2.2.1, h.2.2.2.1.there hal hh, h.2.2.2.2.1, h.2.2.2.2.2.1.there hal hh, h.2.2.2.2.2.2⟩) (fun r U U' V V' h1 hal h2 h => XT.PureE.mv r U U' V V' h1 hal h2 h) ?_
  intro p e s m args below meth c s₁ X0 hexec hbytes hml hret hlk hnm hown hh0 W hP
  obtain ⟨rfl, hx, hi, s1, hz, s3, rf⟩ := hP
  have v31 := hx.2.2.2.1.2.2.2
  have hr := hx.2.2.2.2.2 i hi
  have hx0 := hx.mv X0.warmed.alike hh0
  have c1 : Steps p.tables e below (s₁.setTop (entryFrame m #[.ref x, .int (Int32.ofNat i)] 2)) (s₁.setTop (mkF m 1 #[.val (.ref x), .val (.int (Int32.ofNat i))] [.ref x])) := Steps.trans (entry rfl) (by
    show Steps p.tables e below (s₁.setTop (mkF m 0 #[.val (.ref x), .val (.int (Int32.ofNat i))] [])) _
    refine XS.aloadN X0.here hexec rfl (hb hbytes d0) rfl rfl ?_
    exact Steps.refl _)
  obtain ⟨v2, T2, X2, E2, g2⟩ := X0.callV hexec (IsL.law l x 0 z) hown (wks W (virtW "java/lang/String" 492 "java/lang/String" IsL.yN IsL.yN)) rfl (by decide) (wk W IsL.tab) (W := 0) (Nat.le_of_ble_eq_true rfl) (Nat.le_of_ble_eq_true rfl) (Nat.le_refl _) (Nat.le_refl _) (hx0.1.fc X0.warmed.alike) hx0.1.is (g := (mkF m 1 #[.val (.ref x), .val (.int (Int32.ofNat i))] [.ref x])) rfl (by rw [hml]; rfl) c1 (argsL := []) (rest := []) rfl rfl (by show 2 * 0 + 0 ≤ _; decide) (hb hbytes d1) (⟨rfl, hx0.2.2.1, hx.2.2.2.2.1.cd, s1.there X0.warmed.alike hh0, hz⟩)
  obtain ⟨rfl, q2⟩ := E2
  have hh2 := q2.trans hh0
  have hx2 := hx.mv X2.warmed.alike hh2
  obtain ⟨-, k1, k2⟩ | ⟨k0, -⟩ := hx.2.2.2.2.1
  · have c3 : Steps p.tables e below (s₁.setTop (entryFrame m #[.ref x, .int (Int32.ofNat i)] 2)) (T2.setTop (mkF m 8 #[.val (.ref x), .val (.int (Int32.ofNat i))] [.ref x])) := Steps.trans g2 (by
      refine XS.ifNo X2.here hexec rfl (hb hbytes d4) rfl (i0_eq_f (by decide)) ?_
      refine XS.aloadN X2.here hexec rfl (hb hbytes d7) rfl rfl ?_
      exact Steps.refl _)
    obtain ⟨T4, X4, q4, st4⟩ := X2.hget hexec hown (wk W (.fieldLink "java/lang/String" 9 "java/lang/String" "value" "[B")) hx2.2.1 (g := (mkF m 8 #[.val (.ref x), .val (.int (Int32.ofNat i))] [.ref x])) rfl (rest := []) rfl (hb hbytes d8)
    have hh4 := q4.trans hh2
    have c5 : Steps p.tables e below (s₁.setTop (entryFrame m #[.ref x, .int (Int32.ofNat i)] 2)) (T4.setTop (mkF m 12 #[.val (.ref x), .val (.int (Int32.ofNat i))] [.int (Int32.ofNat i), .ref t])) := (c3.trans (st4 _ (Steps.refl _))).trans (by
      refine XS.iloadN X4.here hexec rfl (hb hbytes d11) rfl ?_
      exact Steps.refl _)
    obtain ⟨v6, T6, X6, E6, g6⟩ := X4.callS hexec (LChA.law l t V i (lo8 (f i)) fm) hown (wks W (staticW "java/lang/String" 495 LChA.yN)) (wk W LChA.tab) (W := 0) (Nat.le_of_ble_eq_true rfl) (Nat.le_of_ble_eq_true rfl) (Nat.le_refl _) (Nat.le_refl _) (g := (mkF m 12 #[.val (.ref x), .val (.int (Int32.ofNat i))] [.int (Int32.ofNat i), .ref t])) rfl (by rw [hml]; rfl) c5 (argsL := [.ref t, .int (Int32.ofNat i)]) (rest := []) rfl rfl (by show 2 * 0 + 0 ≤ _; decide) (hb hbytes d12) (⟨rfl, hx.2.2.2.1.mv X4.warmed.alike hh4, (k2 i hi).1, s3.there X4.warmed.alike hh4, rf⟩)
    obtain ⟨rfl, q6⟩ := E6
    rw [chr8_lo8 hr.1 (k2 i hi).2] at g6
    exact ⟨T6, some (.int (f i)), _, _, _, X6, rfl, rfl, rfl, (fun h => by cases h), ⟨rfl, q6.trans hh4⟩, fun fs hl => Steps.trans g6 (X6.ireturnOut hexec hret (narrow_ch hr.1 hr.2) (Or.inr (Or.inr (Or.inr (Or.inl rfl)))) (hb hbytes d15) hl)⟩
  · exact absurd k0 (by decide)
theorem pays {l : Launch} {R : Room} {p : Program} {e : Env} {below : List Frame} {s : State} {sargs : Array Value} {len W : Nat} (x t : Addr) (V : Cell) (n : Nat) (f : Nat → Int32) (z : Int32) (fm : Value) (i : Nat) (htab : tab.before sargs s = true) (hfr : 4 ≤ R.frames) (hlo : W + 53 ≤ R.locals) :
    Back l R p e below s sargs yN len W (fun A₁ a₁ => A₁.cells + 0 ≤ R.cells ∧ A₁.slots + 0 ≤ R.slots ∧ P x t V n f z fm i a₁ A₁.U) (fun A₁ _ v₁ B₁ => E f i v₁ A₁.U B₁.U ∧ B₁.locs = A₁.locs ++ [] ∧ B₁.cells = A₁.cells + 0 ∧ B₁.slots = A₁.slots + 0) :=
  (law l x t V n f z fm i).pays htab hfr (by omega)
end ChN
end StrChars
namespace StrChars.Road
open Jvm Sem ClassFile Op Lib Jvm.Stand Jvm.Free Jvm.Free.XT
open Jvm.Lib.Cold (StaticIs)
/-- the words of String.charAt(int), the Latin-1 road alone -/
abbrev wordsChN : List Jvm.Cond := [.code ChN.yN ChN.yB 2 (some .char), .initialized ST, .fieldLink ST 9 ST "value" "[B", .fieldLink ST 38 ST "COMPACT_STRINGS" "Z", .fieldLink ST 15 ST "coder" "B", .code IsL.yN IsL.yB 1 (some .boolean), .methodLink ST 492 IsL.yN, .declares IsL.yN, .selects ST IsL.yN IsL.yN, .instanceMethod IsL.yN,
  .methodLink ST 495 LChA.yN, .static LChA.yN, .code LChA.yN LChA.yB 2 (some .char), .initialized "java/lang/StringLatin1", .methodLink "java/lang/StringLatin1" 9 JO.Str_checkIndex.yN, .static JO.Str_checkIndex.yN, .code JO.Str_checkIndex.yN JO.Str_checkIndex.yB 2 none,
  .fieldLink ST 1053 "jdk/internal/util/Preconditions" "SIOOBE_FORMATTER" "Ljava/util/function/BiFunction;", .methodLink ST 1059 JC.PreCheck.yN, .static JC.PreCheck.yN, .code JC.PreCheck.yN JC.PreCheck.yB 3 (some .int), .initialized "jdk/internal/util/Preconditions"]
theorem tabChN_of {a : Array Value} {s : State} (h : ∀ w ∈ wordsChN, w.before a s = true) : ChN.tab.before a s = true := by
  have hp : JC.PreCheck.tab.before a s = true := unparts (wk h (.code JC.PreCheck.yN JC.PreCheck.yB 3 (some .int))) (wks h (.initialized JC.PreCheck.yN.cls :: JC.PreCheck.site))
  have qk := consq hp h
  have hk : JO.Str_checkIndex.tab.before a s = true := unparts (wk qk (.code JO.Str_checkIndex.yN JO.Str_checkIndex.yB 2 none)) (wks qk (.initialized JO.Str_checkIndex.yN.cls :: JO.Str_checkIndex.site))
  have ql := consq hk h
  have hl : LChA.tab.before a s = true := unparts (wk ql (.code LChA.yN LChA.yB 2 (some .char))) (wks ql (.initialized LChA.yN.cls :: LChA.site))
  have hi : IsL.tab.before a s = true := unparts (wk h (.code IsL.yN IsL.yB 1 (some .boolean))) (wks h (.initialized IsL.yN.cls :: IsL.site))
  have q := consq hi (consq hl h)
  exact unparts (wk q (.code ChN.yN ChN.yB 2 (some .char))) (wks q (.initialized ChN.yN.cls :: ChN.site))
theorem movedChN {Z s : State} {a0 args : Array Value} (hZ : Z.Warmed39 s.vm) (hw : ∀ d ∈ wordsChN, d.before a0 Z = true) : ∀ d ∈ wordsChN, d.before args s = true := fun d hd => by
  have t : ∀ d ∈ wordsChN, (d.onTables && d.keepsFace) = true := by decide +kernel
  exact RoadKit.mv hZ (hw d hd) (t d hd)
/-- **charAt(i) OF A LATIN-1 STRING**, i < n: the char -/
theorem chN {p : Program} {l : Launch} {e : Env} {R : Room} {s : State} {args : Array Value} {below : List Frame} {len W : Nat} {Z : State} {a0 : Array Value} {h : Heap} (hZ : Z.Warmed39 s.vm) (hw : ∀ d ∈ wordsChN, d.before a0 Z = true) {kI : Nat} (wi : (Jvm.Cond.instantiable ST kI).before a0 Z = true)
    {x t : Addr} {kb : ClassId} {cs : List Int32} {N2 z : Int32} {vs : List Value} {fm : Value} {i : Nat} {j : Int32} (E : RoadKit.Exa Z h x ST) (V : RoadKit.Fld Z h x ST "value" "[B" (.ref t)) (C : RoadKit.Fld Z h x ST "coder" "B" (.int 0)) (K : RoadKit.Arv Z h t kb .byte N2 vs (.int 0)) (hc : CodA cs 0 N2 vs) (hb : ∀ c ∈ cs, ¬ c < 0 ∧ ¬ (65535 : Int32) < c)
    (S : RoadKit.Sta Z h ST "COMPACT_STRINGS" "Z" (.int z)) (hz : ¬ z = 0) (F : RoadKit.Sta Z h "jdk/internal/util/Preconditions" "SIOOBE_FORMATTER" "Ljava/util/function/BiFunction;" fm) (rf : fm.isRef = true) (l2 : cs.length ≤ 4000) (hi : i < cs.length) (hj : j = Int32.ofNat i) (hfr : 4 ≤ R.frames) (hlo : W + 53 ≤ R.locals) :
    Back l R p e below s args (⟨"java/lang/String", "charAt", "(I)C"⟩ : MethodName) len W (fun P a => a = #[.ref x, .int j] ∧ P.U.heap = h ∧ P.cells + 0 ≤ R.cells ∧ P.slots + 0 ≤ R.slots)
      (fun P _ v B => ∃ L, (v = some (.int (cs.getD i 0)) ∧ L = [] ∧ B.U.heap = h) ∧ B.locs = P.locs ++ L ∧ B.cells = P.cells + 0 ∧ B.slots = P.slots + 0) := by
  subst hj
  intro m meth c P g ig mk a X hg hsize hdg hW hn hp'
  obtain ⟨rfl, rfl, r1, r2⟩ := hp'
  have al : Z.vm.Alike P.U.vm := hZ.alike.trans X.warmed.alike
  obtain ⟨A, hx⟩ := txt_of wi al E V C K hc hb l2
  obtain ⟨v, B, X', ⟨⟨hv, hh⟩, hl, hk, hs⟩, st⟩ := ChN.pays x t A cs.length (fun j => cs.getD j 0) z fm i (tabChN_of (movedChN hZ hw)) hfr hlo m meth c P g ig mk _ X hg hsize hdg hW hn ⟨r1, r2, rfl, hx, hi, sta_is al S, hz, sta_is al F, rf⟩
  exact ⟨v, B, X', ⟨[], ⟨hv, rfl, hh⟩, hl, hk, hs⟩, st⟩
end StrChars.Road
end Jvm.Pilot.@@N@@

namespace Jvm.Pilot.@@N@@
open Jvm Jvm.ClassFile Sem Op Lib Jvm.Free Jvm.Stand Jvm.LawKit Jvm.RoadKit Bundle Jvm.Pilot.@@N@@.Jvm.D
section OwnSteps
variable {p : Program} {l : Launch} {e : Env} {R : Room} {s : State} {m : MethodId} {args : Array Value} {below : List Frame} {meth : Method} {c : Code} {T : State} {locs : List Loc} {cells slots : Nat} {G : State → Outcome → Prop} {B : ByteArray} {pc pc' : Nat} {Ls Ls' : Array Slot} {st : List Value}
/-- from here the run ends as G says -/
def own_E (tb : Tables) (e : Env) (below : List Frame) (G : State → Outcome → Prop) (A : State) : Prop := ∃ s₂ o, Steps tb e below A s₂ ∧ G s₂ o
theorem own_go {tb : Tables} {A A' : State} (h : ∀ t, Steps tb e below A' t → Steps tb e below A t) (k : own_E tb e below G A') : own_E tb e below G A := by
  obtain ⟨s₂, o, h1, h2⟩ := k; exact ⟨s₂, o, h _ h1, h2⟩
theorem own_tr {tb : Tables} {A A' : State} (h : Steps tb e below A A') (k : own_E tb e below G A') : own_E tb e below G A := own_go (fun _ q => h.trans q) k
theorem own_iloadN (X : Stand p l e R s m args below meth c T locs cells slots) (hx : p.tables.exec = Jvm.exec) (hby : c.code = B) {k : Fin 4} {v : Int32} (hd : decode B pc = .ok (.iload_n k, 1)) (hp : pc + 1 = pc') (hl : Ls[k.val]? = some (.val (.int v)))
    (k : own_E p.tables e below G (T.setTop (mkF m pc' Ls (.int v :: st)))) : own_E p.tables e below G (T.setTop (mkF m pc Ls (st))) := by
  subst hp; exact own_go (fun t q => XS.iloadN X.here hx rfl (hb hby hd) hl q) k
theorem own_iload (X : Stand p l e R s m args below meth c T locs cells slots) (hx : p.tables.exec = Jvm.exec) (hby : c.code = B) {k : Nat} {v : Int32} (hd : decode B pc = .ok (.iload k, 2)) (hp : pc + 2 = pc') (hl : Ls[k]? = some (.val (.int v)))
    (k : own_E p.tables e below G (T.setTop (mkF m pc' Ls (.int v :: st)))) : own_E p.tables e below G (T.setTop (mkF m pc Ls (st))) := by
  subst hp; exact own_go (fun t q => XS.iload X.here hx rfl (hb hby hd) hl q) k
theorem own_lloadN (X : Stand p l e R s m args below meth c T locs cells slots) (hx : p.tables.exec = Jvm.exec) (hby : c.code = B) {k : Fin 4} {v : Int64} (hd : decode B pc = .ok (.lload_n k, 1)) (hp : pc + 1 = pc') (hl : Ls[k.val]? = some (.val (.long v)))
    (k : own_E p.tables e below G (T.setTop (mkF m pc' Ls (.long v :: st)))) : own_E p.tables e below G (T.setTop (mkF m pc Ls (st))) := by
  subst hp; exact own_go (fun t q => XS.lloadN X.here hx rfl (hb hby hd) hl q) k
theorem own_lload (X : Stand p l e R s m args below meth c T locs cells slots) (hx : p.tables.exec = Jvm.exec) (hby : c.code = B) {k : Nat} {v : Int64} (hd : decode B pc = .ok (.lload k, 2)) (hp : pc + 2 = pc') (hl : Ls[k]? = some (.val (.long v)))
    (k : own_E p.tables e below G (T.setTop (mkF m pc' Ls (.long v :: st)))) : own_E p.tables e below G (T.setTop (mkF m pc Ls (st))) := by
  subst hp; exact own_go (fun t q => XS.lload X.here hx rfl (hb hby hd) hl q) k
theorem own_aloadN (X : Stand p l e R s m args below meth c T locs cells slots) (hx : p.tables.exec = Jvm.exec) (hby : c.code = B) {k : Fin 4} {v : Value} (hd : decode B pc = .ok (.aload_n k, 1)) (hp : pc + 1 = pc') (hl : Ls[k.val]? = some (.val v)) (hv : v.isRef = true)
    (k : own_E p.tables e below G (T.setTop (mkF m pc' Ls (v :: st)))) : own_E p.tables e below G (T.setTop (mkF m pc Ls (st))) := by
  subst hp; exact own_go (fun t q => XS.aloadN X.here hx rfl (hb hby hd) hl hv q) k
theorem own_aload (X : Stand p l e R s m args below meth c T locs cells slots) (hx : p.tables.exec = Jvm.exec) (hby : c.code = B) {k : Nat} {v : Value} (hd : decode B pc = .ok (.aload k, 2)) (hp : pc + 2 = pc') (hl : Ls[k]? = some (.val v)) (hv : v.isRef = true)
    (k : own_E p.tables e below G (T.setTop (mkF m pc' Ls (v :: st)))) : own_E p.tables e below G (T.setTop (mkF m pc Ls (st))) := by
  subst hp; exact own_go (fun t q => XS.aload X.here hx rfl (hb hby hd) hl hv q) k
theorem own_istoreN (X : Stand p l e R s m args below meth c T locs cells slots) (hx : p.tables.exec = Jvm.exec) (hby : c.code = B) {k : Fin 4} {v : Int32} (hd : decode B pc = .ok (.istore_n k, 1)) (hp : pc + 1 = pc') (hl : storeLocals Ls k.val (.int v) = some Ls')
    (k : own_E p.tables e below G (T.setTop (mkF m pc' Ls' (st)))) : own_E p.tables e below G (T.setTop (mkF m pc Ls (.int v :: st))) := by
  subst hp; exact own_go (fun t q => XS.istoreN X.here hx rfl (hb hby hd) rfl hl q) k
theorem own_istore (X : Stand p l e R s m args below meth c T locs cells slots) (hx : p.tables.exec = Jvm.exec) (hby : c.code = B) {k : Nat} {v : Int32} (hd : decode B pc = .ok (.istore k, 2)) (hp : pc + 2 = pc') (hl : storeLocals Ls k (.int v) = some Ls')
    (k : own_E p.tables e below G (T.setTop (mkF m pc' Ls' (st)))) : own_E p.tables e below G (T.setTop (mkF m pc Ls (.int v :: st))) := by
  subst hp; exact own_go (fun t q => XS.istore X.here hx rfl (hb hby hd) rfl hl q) k
theorem own_lstoreN (X : Stand p l e R s m args below meth c T locs cells slots) (hx : p.tables.exec = Jvm.exec) (hby : c.code = B) {k : Fin 4} {v : Int64} (hd : decode B pc = .ok (.lstore_n k, 1)) (hp : pc + 1 = pc') (hl : storeLocals Ls k.val (.long v) = some Ls')
    (k : own_E p.tables e below G (T.setTop (mkF m pc' Ls' (st)))) : own_E p.tables e below G (T.setTop (mkF m pc Ls (.long v :: st))) := by
  subst hp; exact own_go (fun t q => XS.lstoreN X.here hx rfl (hb hby hd) rfl hl q) k
theorem own_lstore (X : Stand p l e R s m args below meth c T locs cells slots) (hx : p.tables.exec = Jvm.exec) (hby : c.code = B) {k : Nat} {v : Int64} (hd : decode B pc = .ok (.lstore k, 2)) (hp : pc + 2 = pc') (hl : storeLocals Ls k (.long v) = some Ls')
    (k : own_E p.tables e below G (T.setTop (mkF m pc' Ls' (st)))) : own_E p.tables e below G (T.setTop (mkF m pc Ls (.long v :: st))) := by
  subst hp; exact own_go (fun t q => XS.lstore X.here hx rfl (hb hby hd) rfl hl q) k
theorem own_astoreN (X : Stand p l e R s m args below meth c T locs cells slots) (hx : p.tables.exec = Jvm.exec) (hby : c.code = B) {k : Fin 4} {v : Value} (hd : decode B pc = .ok (.astore_n k, 1)) (hp : pc + 1 = pc') (hv : v.isRef = true) (hl : storeLocals Ls k.val v = some Ls')
    (k : own_E p.tables e below G (T.setTop (mkF m pc' Ls' (st)))) : own_E p.tables e below G (T.setTop (mkF m pc Ls (v :: st))) := by
  subst hp; exact own_go (fun t q => XS.astoreN X.here hx rfl (hb hby hd) rfl hv hl q) k
theorem own_astore (X : Stand p l e R s m args below meth c T locs cells slots) (hx : p.tables.exec = Jvm.exec) (hby : c.code = B) {k : Nat} {v : Value} (hd : decode B pc = .ok (.astore k, 2)) (hp : pc + 2 = pc') (hv : v.isRef = true) (hl : storeLocals Ls k v = some Ls')
    (k : own_E p.tables e below G (T.setTop (mkF m pc' Ls' (st)))) : own_E p.tables e below G (T.setTop (mkF m pc Ls (v :: st))) := by
  subst hp; exact own_go (fun t q => XS.astore X.here hx rfl (hb hby hd) rfl hv hl q) k
theorem own_iinc (X : Stand p l e R s m args below meth c T locs cells slots) (hx : p.tables.exec = Jvm.exec) (hby : c.code = B) {k : Nat} {cst : Int} {v z : Int32} (hd : decode B pc = .ok (.iinc k cst, 3)) (hp : pc + 3 = pc') (hl : Ls[k]? = some (.val (.int v))) (hz : Int32.ofInt cst = z) (hl' : storeLocals Ls k (.int (v + z)) = some Ls')
    (k : own_E p.tables e below G (T.setTop (mkF m pc' Ls' (st)))) : own_E p.tables e below G (T.setTop (mkF m pc Ls (st))) := by
  subst hp; exact own_go (fun t q => XS.iinc X.here hx rfl (hb hby hd) hl (hz ▸ hl') q) k
theorem own_iconst (X : Stand p l e R s m args below meth c T locs cells slots) (hx : p.tables.exec = Jvm.exec) (hby : c.code = B) {i : Int} {z : Int32} (hd : decode B pc = .ok (.iconst i, 1)) (hp : pc + 1 = pc') (hz : Int32.ofInt i = z)
    (k : own_E p.tables e below G (T.setTop (mkF m pc' Ls (.int z :: st)))) : own_E p.tables e below G (T.setTop (mkF m pc Ls (st))) := by
  subst hp hz; exact own_go (fun t q => XS.iconst X.here hx rfl (hb hby hd) q) k
theorem own_bipush (X : Stand p l e R s m args below meth c T locs cells slots) (hx : p.tables.exec = Jvm.exec) (hby : c.code = B) {i : Int} {z : Int32} (hd : decode B pc = .ok (.bipush i, 2)) (hp : pc + 2 = pc') (hz : (Int8.ofInt i).toInt32 = z)
    (k : own_E p.tables e below G (T.setTop (mkF m pc' Ls (.int z :: st)))) : own_E p.tables e below G (T.setTop (mkF m pc Ls (st))) := by
  subst hp hz; exact own_go (fun t q => XS.bipush X.here hx rfl (hb hby hd) q) k
theorem own_sipush (X : Stand p l e R s m args below meth c T locs cells slots) (hx : p.tables.exec = Jvm.exec) (hby : c.code = B) {i : Int} {z : Int32} (hd : decode B pc = .ok (.sipush i, 3)) (hp : pc + 3 = pc') (hz : (Int16.ofInt i).toInt32 = z)
    (k : own_E p.tables e below G (T.setTop (mkF m pc' Ls (.int z :: st)))) : own_E p.tables e below G (T.setTop (mkF m pc Ls (st))) := by
  subst hp hz; exact own_go (fun t q => XS.sipush X.here hx rfl (hb hby hd) q) k
theorem own_lconst (X : Stand p l e R s m args below meth c T locs cells slots) (hx : p.tables.exec = Jvm.exec) (hby : c.code = B) {i : Fin 2} {z : Int64} (hd : decode B pc = .ok (.lconst i, 1)) (hp : pc + 1 = pc') (hz : Int64.ofNat i = z)
    (k : own_E p.tables e below G (T.setTop (mkF m pc' Ls (.long z :: st)))) : own_E p.tables e below G (T.setTop (mkF m pc Ls (st))) := by
  subst hp hz; exact own_go (fun t q => XS.lconst X.here hx rfl (hb hby hd) q) k
theorem own_aconst_null (X : Stand p l e R s m args below meth c T locs cells slots) (hx : p.tables.exec = Jvm.exec) (hby : c.code = B)  (hd : decode B pc = .ok (.aconst_null, 1)) (hp : pc + 1 = pc') 
    (k : own_E p.tables e below G (T.setTop (mkF m pc' Ls (.null :: st)))) : own_E p.tables e below G (T.setTop (mkF m pc Ls (st))) := by
  subst hp; exact own_go (fun t q => XS.aconstNull X.here hx rfl (hb hby hd)  q) k
theorem own_iadd (X : Stand p l e R s m args below meth c T locs cells slots) (hx : p.tables.exec = Jvm.exec) (hby : c.code = B) {x y : Int32} (hd : decode B pc = .ok (.iadd, 1)) (hp : pc + 1 = pc') 
    (k : own_E p.tables e below G (T.setTop (mkF m pc' Ls (.int (x + y) :: st)))) : own_E p.tables e below G (T.setTop (mkF m pc Ls (.int y :: .int x :: st))) := by
  subst hp; exact own_go (fun t q => XS.iadd X.here hx rfl (hb hby hd) rfl q) k
theorem own_isub (X : Stand p l e R s m args below meth c T locs cells slots) (hx : p.tables.exec = Jvm.exec) (hby : c.code = B) {x y : Int32} (hd : decode B pc = .ok (.isub, 1)) (hp : pc + 1 = pc') 
    (k : own_E p.tables e below G (T.setTop (mkF m pc' Ls (.int (x - y) :: st)))) : own_E p.tables e below G (T.setTop (mkF m pc Ls (.int y :: .int x :: st))) := by
  subst hp; exact own_go (fun t q => XS.isub X.here hx rfl (hb hby hd) rfl q) k
theorem own_iand (X : Stand p l e R s m args below meth c T locs cells slots) (hx : p.tables.exec = Jvm.exec) (hby : c.code = B) {x y : Int32} (hd : decode B pc = .ok (.iand, 1)) (hp : pc + 1 = pc') 
    (k : own_E p.tables e below G (T.setTop (mkF m pc' Ls (.int (x &&& y) :: st)))) : own_E p.tables e below G (T.setTop (mkF m pc Ls (.int y :: .int x :: st))) := by
  subst hp; exact own_go (fun t q => XS.iand X.here hx rfl (hb hby hd) rfl q) k
theorem own_imul (X : Stand p l e R s m args below meth c T locs cells slots) (hx : p.tables.exec = Jvm.exec) (hby : c.code = B) {x y : Int32} (hd : decode B pc = .ok (.imul, 1)) (hp : pc + 1 = pc') 
    (k : own_E p.tables e below G (T.setTop (mkF m pc' Ls (.int (x * y) :: st)))) : own_E p.tables e below G (T.setTop (mkF m pc Ls (.int y :: .int x :: st))) := by
  subst hp; exact own_go (fun t q => XS.imul X.here hx rfl (hb hby hd) rfl q) k
theorem own_ixor (X : Stand p l e R s m args below meth c T locs cells slots) (hx : p.tables.exec = Jvm.exec) (hby : c.code = B) {x y : Int32} (hd : decode B pc = .ok (.ixor, 1)) (hp : pc + 1 = pc') 
    (k : own_E p.tables e below G (T.setTop (mkF m pc' Ls (.int (x ^^^ y) :: st)))) : own_E p.tables e below G (T.setTop (mkF m pc Ls (.int y :: .int x :: st))) := by
  subst hp; exact own_go (fun t q => XS.ixor X.here hx rfl (hb hby hd) rfl q) k
theorem own_ior (X : Stand p l e R s m args below meth c T locs cells slots) (hx : p.tables.exec = Jvm.exec) (hby : c.code = B) {x y : Int32} (hd : decode B pc = .ok (.ior, 1)) (hp : pc + 1 = pc') 
    (k : own_E p.tables e below G (T.setTop (mkF m pc' Ls (.int (x ||| y) :: st)))) : own_E p.tables e below G (T.setTop (mkF m pc Ls (.int y :: .int x :: st))) := by
  subst hp; exact own_go (fun t q => XS.ior X.here hx rfl (hb hby hd) rfl q) k
theorem own_ishl (X : Stand p l e R s m args below meth c T locs cells slots) (hx : p.tables.exec = Jvm.exec) (hby : c.code = B) {x y : Int32} (hd : decode B pc = .ok (.ishl, 1)) (hp : pc + 1 = pc') 
    (k : own_E p.tables e below G (T.setTop (mkF m pc' Ls (.int (x <<< (y &&& 31)) :: st)))) : own_E p.tables e below G (T.setTop (mkF m pc Ls (.int y :: .int x :: st))) := by
  subst hp; exact own_go (fun t q => XS.ishl X.here hx rfl (hb hby hd) rfl q) k
theorem own_ishr (X : Stand p l e R s m args below meth c T locs cells slots) (hx : p.tables.exec = Jvm.exec) (hby : c.code = B) {x y : Int32} (hd : decode B pc = .ok (.ishr, 1)) (hp : pc + 1 = pc') 
    (k : own_E p.tables e below G (T.setTop (mkF m pc' Ls (.int (x >>> (y &&& 31)) :: st)))) : own_E p.tables e below G (T.setTop (mkF m pc Ls (.int y :: .int x :: st))) := by
  subst hp; exact own_go (fun t q => XS.ishr X.here hx rfl (hb hby hd) rfl q) k
theorem own_iushr (X : Stand p l e R s m args below meth c T locs cells slots) (hx : p.tables.exec = Jvm.exec) (hby : c.code = B) {x y : Int32} (hd : decode B pc = .ok (.iushr, 1)) (hp : pc + 1 = pc') 
    (k : own_E p.tables e below G (T.setTop (mkF m pc' Ls (.int ((x.toUInt32 >>> (y &&& 31).toUInt32).toInt32) :: st)))) : own_E p.tables e below G (T.setTop (mkF m pc Ls (.int y :: .int x :: st))) := by
  subst hp; exact own_go (fun t q => XS.iushr X.here hx rfl (hb hby hd) rfl q) k
theorem own_ladd (X : Stand p l e R s m args below meth c T locs cells slots) (hx : p.tables.exec = Jvm.exec) (hby : c.code = B) {x y : Int64} (hd : decode B pc = .ok (.ladd, 1)) (hp : pc + 1 = pc') 
    (k : own_E p.tables e below G (T.setTop (mkF m pc' Ls (.long (x + y) :: st)))) : own_E p.tables e below G (T.setTop (mkF m pc Ls (.long y :: .long x :: st))) := by
  subst hp; exact own_go (fun t q => XS.ladd X.here hx rfl (hb hby hd) rfl q) k
theorem own_lsub (X : Stand p l e R s m args below meth c T locs cells slots) (hx : p.tables.exec = Jvm.exec) (hby : c.code = B) {x y : Int64} (hd : decode B pc = .ok (.lsub, 1)) (hp : pc + 1 = pc') 
    (k : own_E p.tables e below G (T.setTop (mkF m pc' Ls (.long (x - y) :: st)))) : own_E p.tables e below G (T.setTop (mkF m pc Ls (.long y :: .long x :: st))) := by
  subst hp; exact own_go (fun t q => XS.lsub X.here hx rfl (hb hby hd) rfl q) k
theorem own_lmul (X : Stand p l e R s m args below meth c T locs cells slots) (hx : p.tables.exec = Jvm.exec) (hby : c.code = B) {x y : Int64} (hd : decode B pc = .ok (.lmul, 1)) (hp : pc + 1 = pc') 
    (k : own_E p.tables e below G (T.setTop (mkF m pc' Ls (.long (x * y) :: st)))) : own_E p.tables e below G (T.setTop (mkF m pc Ls (.long y :: .long x :: st))) := by
  subst hp; exact own_go (fun t q => XS.lmul X.here hx rfl (hb hby hd) rfl q) k
theorem own_land (X : Stand p l e R s m args below meth c T locs cells slots) (hx : p.tables.exec = Jvm.exec) (hby : c.code = B) {x y : Int64} (hd : decode B pc = .ok (.land, 1)) (hp : pc + 1 = pc') 
    (k : own_E p.tables e below G (T.setTop (mkF m pc' Ls (.long (x &&& y) :: st)))) : own_E p.tables e below G (T.setTop (mkF m pc Ls (.long y :: .long x :: st))) := by
  subst hp; exact own_go (fun t q => XS.land X.here hx rfl (hb hby hd) rfl q) k
theorem own_lor (X : Stand p l e R s m args below meth c T locs cells slots) (hx : p.tables.exec = Jvm.exec) (hby : c.code = B) {x y : Int64} (hd : decode B pc = .ok (.lor, 1)) (hp : pc + 1 = pc') 
    (k : own_E p.tables e below G (T.setTop (mkF m pc' Ls (.long (x ||| y) :: st)))) : own_E p.tables e below G (T.setTop (mkF m pc Ls (.long y :: .long x :: st))) := by
  subst hp; exact own_go (fun t q => XS.lor X.here hx rfl (hb hby hd) rfl q) k
theorem own_lxor (X : Stand p l e R s m args below meth c T locs cells slots) (hx : p.tables.exec = Jvm.exec) (hby : c.code = B) {x y : Int64} (hd : decode B pc = .ok (.lxor, 1)) (hp : pc + 1 = pc') 
    (k : own_E p.tables e below G (T.setTop (mkF m pc' Ls (.long (x ^^^ y) :: st)))) : own_E p.tables e below G (T.setTop (mkF m pc Ls (.long y :: .long x :: st))) := by
  subst hp; exact own_go (fun t q => XS.lxor X.here hx rfl (hb hby hd) rfl q) k
theorem own_lshl (X : Stand p l e R s m args below meth c T locs cells slots) (hx : p.tables.exec = Jvm.exec) (hby : c.code = B) {x : Int64} {y : Int32} (hd : decode B pc = .ok (.lshl, 1)) (hp : pc + 1 = pc')
    (k : own_E p.tables e below G (T.setTop (mkF m pc' Ls (.long (x <<< (y &&& 0x3f).toInt64) :: st)))) : own_E p.tables e below G (T.setTop (mkF m pc Ls (.int y :: .long x :: st))) := by
  subst hp; exact own_go (fun t q => by
    jvm_step X.here [X.here.top, hx, hb hby hd]
    first | exact q | simpa [Int32.toInt64_and] using q) k
theorem own_lshr (X : Stand p l e R s m args below meth c T locs cells slots) (hx : p.tables.exec = Jvm.exec) (hby : c.code = B) {x : Int64} {y : Int32} (hd : decode B pc = .ok (.lshr, 1)) (hp : pc + 1 = pc')
    (k : own_E p.tables e below G (T.setTop (mkF m pc' Ls (.long (x >>> (y &&& 0x3f).toInt64) :: st)))) : own_E p.tables e below G (T.setTop (mkF m pc Ls (.int y :: .long x :: st))) := by
  subst hp; exact own_go (fun t q => by
    jvm_step X.here [X.here.top, hx, hb hby hd]
    first | exact q | simpa [Int32.toInt64_and] using q) k
theorem own_lushr (X : Stand p l e R s m args below meth c T locs cells slots) (hx : p.tables.exec = Jvm.exec) (hby : c.code = B) {x : Int64} {y : Int32} (hd : decode B pc = .ok (.lushr, 1)) (hp : pc + 1 = pc')
    (k : own_E p.tables e below G (T.setTop (mkF m pc' Ls (.long ((x.toUInt64 >>> (y &&& 0x3f).toInt64.toUInt64).toInt64) :: st)))) : own_E p.tables e below G (T.setTop (mkF m pc Ls (.int y :: .long x :: st))) := by
  subst hp; exact own_go (fun t q => by
    jvm_step X.here [X.here.top, hx, hb hby hd]
    first | exact q | simpa [Int32.toInt64_and] using q) k
theorem own_idiv (X : Stand p l e R s m args below meth c T locs cells slots) (hx : p.tables.exec = Jvm.exec) (hby : c.code = B) {x y : Int32} (hd : decode B pc = .ok (.idiv, 1)) (hp : pc + 1 = pc') (hy : y ≠ 0)
    (k : own_E p.tables e below G (T.setTop (mkF m pc' Ls (.int (x / y) :: st)))) : own_E p.tables e below G (T.setTop (mkF m pc Ls (.int y :: .int x :: st))) := by
  subst hp; exact own_go (fun t q => XS.idiv X.here hx rfl (hb hby hd) rfl hy q) k
theorem own_irem (X : Stand p l e R s m args below meth c T locs cells slots) (hx : p.tables.exec = Jvm.exec) (hby : c.code = B) {x y : Int32} (hd : decode B pc = .ok (.irem, 1)) (hp : pc + 1 = pc') (hy : y ≠ 0)
    (k : own_E p.tables e below G (T.setTop (mkF m pc' Ls (.int (x % y) :: st)))) : own_E p.tables e below G (T.setTop (mkF m pc Ls (.int y :: .int x :: st))) := by
  subst hp; exact own_go (fun t q => iremM X hx rfl (hb hby hd) rfl hy q) k
theorem own_lrem (X : Stand p l e R s m args below meth c T locs cells slots) (hx : p.tables.exec = Jvm.exec) (hby : c.code = B) {x y : Int64} (hd : decode B pc = .ok (.lrem, 1)) (hp : pc + 1 = pc') (hy : y ≠ 0)
    (k : own_E p.tables e below G (T.setTop (mkF m pc' Ls (.long (x % y) :: st)))) : own_E p.tables e below G (T.setTop (mkF m pc Ls (.long y :: .long x :: st))) := by
  subst hp; exact own_go (fun t q => XS.lrem X.here hx rfl (hb hby hd) rfl hy (by rw [lrem_mod]; exact q)) k
theorem own_ineg (X : Stand p l e R s m args below meth c T locs cells slots) (hx : p.tables.exec = Jvm.exec) (hby : c.code = B) {x : Int32} (hd : decode B pc = .ok (.ineg, 1)) (hp : pc + 1 = pc') 
    (k : own_E p.tables e below G (T.setTop (mkF m pc' Ls (.int (-x) :: st)))) : own_E p.tables e below G (T.setTop (mkF m pc Ls (.int x :: st))) := by
  subst hp; exact own_go (fun t q => XS.ineg X.here hx rfl (hb hby hd) rfl q) k
theorem own_lneg (X : Stand p l e R s m args below meth c T locs cells slots) (hx : p.tables.exec = Jvm.exec) (hby : c.code = B) {x : Int64} (hd : decode B pc = .ok (.lneg, 1)) (hp : pc + 1 = pc') 
    (k : own_E p.tables e below G (T.setTop (mkF m pc' Ls (.long (-x) :: st)))) : own_E p.tables e below G (T.setTop (mkF m pc Ls (.long x :: st))) := by
  subst hp; exact own_go (fun t q => XS.lneg X.here hx rfl (hb hby hd) rfl q) k
theorem own_i2l (X : Stand p l e R s m args below meth c T locs cells slots) (hx : p.tables.exec = Jvm.exec) (hby : c.code = B) {x : Int32} (hd : decode B pc = .ok (.i2l, 1)) (hp : pc + 1 = pc') 
    (k : own_E p.tables e below G (T.setTop (mkF m pc' Ls (.long (x.toInt64) :: st)))) : own_E p.tables e below G (T.setTop (mkF m pc Ls (.int x :: st))) := by
  subst hp; exact own_go (fun t q => XS.i2l X.here hx rfl (hb hby hd) rfl q) k
theorem own_l2i (X : Stand p l e R s m args below meth c T locs cells slots) (hx : p.tables.exec = Jvm.exec) (hby : c.code = B) {x : Int64} (hd : decode B pc = .ok (.l2i, 1)) (hp : pc + 1 = pc') 
    (k : own_E p.tables e below G (T.setTop (mkF m pc' Ls (.int (x.toInt32) :: st)))) : own_E p.tables e below G (T.setTop (mkF m pc Ls (.long x :: st))) := by
  subst hp; exact own_go (fun t q => XS.l2i X.here hx rfl (hb hby hd) rfl q) k
theorem own_i2b (X : Stand p l e R s m args below meth c T locs cells slots) (hx : p.tables.exec = Jvm.exec) (hby : c.code = B) {x : Int32} (hd : decode B pc = .ok (.i2b, 1)) (hp : pc + 1 = pc') 
    (k : own_E p.tables e below G (T.setTop (mkF m pc' Ls (.int (x.toInt8.toInt32) :: st)))) : own_E p.tables e below G (T.setTop (mkF m pc Ls (.int x :: st))) := by
  subst hp; exact own_go (fun t q => XS.i2b X.here hx rfl (hb hby hd) rfl q) k
theorem own_i2c (X : Stand p l e R s m args below meth c T locs cells slots) (hx : p.tables.exec = Jvm.exec) (hby : c.code = B) {x : Int32} (hd : decode B pc = .ok (.i2c, 1)) (hp : pc + 1 = pc') 
    (k : own_E p.tables e below G (T.setTop (mkF m pc' Ls (.int (x.toUInt32.toUInt16.toUInt32.toInt32) :: st)))) : own_E p.tables e below G (T.setTop (mkF m pc Ls (.int x :: st))) := by
  subst hp; exact own_go (fun t q => XS.i2c X.here hx rfl (hb hby hd) rfl q) k
theorem own_i2s (X : Stand p l e R s m args below meth c T locs cells slots) (hx : p.tables.exec = Jvm.exec) (hby : c.code = B) {x : Int32} (hd : decode B pc = .ok (.i2s, 1)) (hp : pc + 1 = pc') 
    (k : own_E p.tables e below G (T.setTop (mkF m pc' Ls (.int (x.toInt16.toInt32) :: st)))) : own_E p.tables e below G (T.setTop (mkF m pc Ls (.int x :: st))) := by
  subst hp; exact own_go (fun t q => XS.i2s X.here hx rfl (hb hby hd) rfl q) k
theorem own_i2cE (X : Stand p l e R s m args below meth c T locs cells slots) (hx : p.tables.exec = Jvm.exec) (hby : c.code = B) {x v : Int32} (hd : decode B pc = .ok (.i2c, 1)) (hp : pc + 1 = pc') (hv : x.toUInt32.toUInt16.toUInt32.toInt32 = v)
    (k : own_E p.tables e below G (T.setTop (mkF m pc' Ls (.int v :: st)))) : own_E p.tables e below G (T.setTop (mkF m pc Ls (.int x :: st))) := by
  subst hv; exact own_i2c X hx hby hd hp k
theorem own_lcmp (X : Stand p l e R s m args below meth c T locs cells slots) (hx : p.tables.exec = Jvm.exec) (hby : c.code = B) {x y : Int64} (hd : decode B pc = .ok (.lcmp, 1)) (hp : pc + 1 = pc')
    (k : own_E p.tables e below G (T.setTop (mkF m pc' Ls (.int (lcmpW x y) :: st)))) : own_E p.tables e below G (T.setTop (mkF m pc Ls (.long y :: .long x :: st))) := by
  subst hp; exact own_go (fun t q => XS.lcmp X.here hx rfl (hb hby hd) rfl q) k
theorem own_dup (X : Stand p l e R s m args below meth c T locs cells slots) (hx : p.tables.exec = Jvm.exec) (hby : c.code = B) {v : Value} (hd : decode B pc = .ok (.dup, 1)) (hp : pc + 1 = pc') (hc : v.category = 1)
    (k : own_E p.tables e below G (T.setTop (mkF m pc' Ls (v :: v :: st)))) : own_E p.tables e below G (T.setTop (mkF m pc Ls (v :: st))) := by
  subst hp; exact own_go (fun t q => XS.dup X.here hx rfl (hb hby hd) rfl hc q) k
theorem own_pop (X : Stand p l e R s m args below meth c T locs cells slots) (hx : p.tables.exec = Jvm.exec) (hby : c.code = B) {v : Value} (hd : decode B pc = .ok (.pop, 1)) (hp : pc + 1 = pc') (hc : v.category = 1)
    (k : own_E p.tables e below G (T.setTop (mkF m pc' Ls (st)))) : own_E p.tables e below G (T.setTop (mkF m pc Ls (v :: st))) := by
  subst hp; exact own_go (fun t q => XS.pop X.here hx rfl (hb hby hd) rfl hc q) k
theorem own_dup_x1 (X : Stand p l e R s m args below meth c T locs cells slots) (hx : p.tables.exec = Jvm.exec) (hby : c.code = B) {v w : Value} (hd : decode B pc = .ok (.dup_x1, 1)) (hp : pc + 1 = pc') (hc : v.category = 1) (hc' : w.category = 1)
    (k : own_E p.tables e below G (T.setTop (mkF m pc' Ls (v :: w :: v :: st)))) : own_E p.tables e below G (T.setTop (mkF m pc Ls (v :: w :: st))) := by
  subst hp; exact own_go (fun t q => XS.dupX1 X.here hx rfl (hb hby hd) rfl hc hc' q) k
theorem own_dup2 (X : Stand p l e R s m args below meth c T locs cells slots) (hx : p.tables.exec = Jvm.exec) (hby : c.code = B) {v w : Value} (hd : decode B pc = .ok (.dup2, 1)) (hp : pc + 1 = pc') (hc : v.category = 1) (hc' : w.category = 1)
    (k : own_E p.tables e below G (T.setTop (mkF m pc' Ls (v :: w :: v :: w :: st)))) : own_E p.tables e below G (T.setTop (mkF m pc Ls (v :: w :: st))) := by
  subst hp; exact own_go (fun t q => by
    jvm_step X.here [X.here.top, hx, hb hby hd, hc, hc']
    exact q) k
theorem own_goto (X : Stand p l e R s m args below meth c T locs cells slots) (hx : p.tables.exec = Jvm.exec) (hby : c.code = B) {o : Int} (hd : decode B pc = .ok (.goto o, 3)) (ho : 0 ≤ (pc : Int) + o) (hp : ((pc : Int) + o).toNat = pc')
    (k : own_E p.tables e below G (T.setTop (mkF m pc' Ls (st)))) : own_E p.tables e below G (T.setTop (mkF m pc Ls (st))) := own_go (fun t q => XS.goto X.here hx rfl rfl (hb hby hd) ho hp q) k
theorem own_ifY (X : Stand p l e R s m args below meth c T locs cells slots) (hx : p.tables.exec = Jvm.exec) (hby : c.code = B) {cd : ClassFile.Cond} {x : Int32} {o : Int} (hd : decode B pc = .ok (.ifCond cd o, 3)) (ho : 0 ≤ (pc : Int) + o) (hp : ((pc : Int) + o).toNat = pc') (hc : if_icmp.holds cd x 0 = true)
    (k : own_E p.tables e below G (T.setTop (mkF m pc' Ls (st)))) : own_E p.tables e below G (T.setTop (mkF m pc Ls (.int x :: st))) := own_go (fun t q => XS.ifYes X.here hx rfl rfl (hb hby hd) rfl ((if0 _ _).trans hc) ho hp q) k
theorem own_ifN (X : Stand p l e R s m args below meth c T locs cells slots) (hx : p.tables.exec = Jvm.exec) (hby : c.code = B) {cd : ClassFile.Cond} {x : Int32} {o : Int} (hd : decode B pc = .ok (.ifCond cd o, 3)) (hp : pc + 3 = pc') (hc : if_icmp.holds cd x 0 = false)
    (k : own_E p.tables e below G (T.setTop (mkF m pc' Ls (st)))) : own_E p.tables e below G (T.setTop (mkF m pc Ls (.int x :: st))) := by
  subst hp; exact own_go (fun t q => XS.ifNo X.here hx rfl (hb hby hd) rfl ((if0 _ _).trans hc) q) k
theorem own_icmpY (X : Stand p l e R s m args below meth c T locs cells slots) (hx : p.tables.exec = Jvm.exec) (hby : c.code = B) {cd : ClassFile.Cond} {x y : Int32} {o : Int} (hd : decode B pc = .ok (.if_icmp cd o, 3)) (ho : 0 ≤ (pc : Int) + o) (hp : ((pc : Int) + o).toNat = pc') (hc : if_icmp.holds cd x y = true)
    (k : own_E p.tables e below G (T.setTop (mkF m pc' Ls (st)))) : own_E p.tables e below G (T.setTop (mkF m pc Ls (.int y :: .int x :: st))) := own_go (fun t q => XS.icmpYes X.here hx rfl rfl (hb hby hd) rfl hc ho hp q) k
theorem own_icmpN (X : Stand p l e R s m args below meth c T locs cells slots) (hx : p.tables.exec = Jvm.exec) (hby : c.code = B) {cd : ClassFile.Cond} {x y : Int32} {o : Int} (hd : decode B pc = .ok (.if_icmp cd o, 3)) (hp : pc + 3 = pc') (hc : if_icmp.holds cd x y = false)
    (k : own_E p.tables e below G (T.setTop (mkF m pc' Ls (st)))) : own_E p.tables e below G (T.setTop (mkF m pc Ls (.int y :: .int x :: st))) := by
  subst hp; exact own_go (fun t q => XS.icmpNo X.here hx rfl (hb hby hd) rfl hc q) k
theorem own_ifnullY (X : Stand p l e R s m args below meth c T locs cells slots) (hx : p.tables.exec = Jvm.exec) (hby : c.code = B)  {o : Int} (hd : decode B pc = .ok (.ifnull o, 3)) (ho : 0 ≤ (pc : Int) + o) (hp : ((pc : Int) + o).toNat = pc')
    (k : own_E p.tables e below G (T.setTop (mkF m pc' Ls (st)))) : own_E p.tables e below G (T.setTop (mkF m pc Ls (.null :: st))) := own_go (fun t q => XS.ifnullYes X.here hx rfl rfl (hb hby hd) rfl ho hp q) k
theorem own_ifnonnullY (X : Stand p l e R s m args below meth c T locs cells slots) (hx : p.tables.exec = Jvm.exec) (hby : c.code = B) {b : Addr} {o : Int} (hd : decode B pc = .ok (.ifnonnull o, 3)) (ho : 0 ≤ (pc : Int) + o) (hp : ((pc : Int) + o).toNat = pc')
    (k : own_E p.tables e below G (T.setTop (mkF m pc' Ls (st)))) : own_E p.tables e below G (T.setTop (mkF m pc Ls (.ref b :: st))) := own_go (fun t q => XS.ifnonnullYes X.here hx rfl rfl (hb hby hd) rfl ho hp q) k
theorem own_ifnullN (X : Stand p l e R s m args below meth c T locs cells slots) (hx : p.tables.exec = Jvm.exec) (hby : c.code = B) {b : Addr} {o : Int} (hd : decode B pc = .ok (.ifnull o, 3)) (hp : pc + 3 = pc')
    (k : own_E p.tables e below G (T.setTop (mkF m pc' Ls (st)))) : own_E p.tables e below G (T.setTop (mkF m pc Ls (.ref b :: st))) := by
  subst hp; exact own_go (fun t q => XS.ifnullNo X.here hx rfl (hb hby hd) rfl q) k
theorem own_ifnonnullN (X : Stand p l e R s m args below meth c T locs cells slots) (hx : p.tables.exec = Jvm.exec) (hby : c.code = B)  {o : Int} (hd : decode B pc = .ok (.ifnonnull o, 3)) (hp : pc + 3 = pc')
    (k : own_E p.tables e below G (T.setTop (mkF m pc' Ls (st)))) : own_E p.tables e below G (T.setTop (mkF m pc Ls (.null :: st))) := by
  subst hp; exact own_go (fun t q => XS.ifnonnullNo X.here hx rfl (hb hby hd) rfl q) k
theorem own_acmp (X : Stand p l e R s m args below meth c T locs cells slots) (hx : p.tables.exec = Jvm.exec) (hby : c.code = B) {cd : ClassFile.ACond} {x y : Value} {o : Int} {same : Bool} (hd : decode B pc = .ok (.if_acmp cd o, 3)) (h1 : x.isRef = true) (h2 : y.isRef = true) (hq : decide (x = y) = same) (ho : 0 ≤ (pc : Int) + o) (hp : pc' = if acV cd same = true then ((pc : Int) + o).toNat else pc + 3)
    (k : own_E p.tables e below G (T.setTop (mkF m pc' Ls (st)))) : own_E p.tables e below G (T.setTop (mkF m pc Ls (y :: x :: st))) := own_go (fun t q => Jvm.RoadKit.acmp (g := mkF m pc Ls (y :: x :: st)) X hx rfl h1 h2 rfl (hb hby hd) rfl hq ho hp q) k
/-- what a body owes at its end -/
def own_End (s : State) (below : List Frame) (Q : Option Value → Heap → List Loc → Prop) (C S : Nat) (s₂ : State) (o : Outcome) : Prop := s₂.status = .running ∧ Ended s₂ below o ∧ ∃ v L, o = .returned v ∧ Q v s₂.heap L ∧ FrameEnd s o s₂ L C S
theorem own_ret (X : Stand p l e R s m args below meth c T locs cells slots) {Q : Option Value → Heap → List Loc → Prop} {C S : Nat} {v : Option Value} (hv : meth.sig.returnType = none → v = none) (hlocks : meth.locks = false)
    (hst : ∀ fs : List Frame, (∀ (f : JFrame) (acts : List Action), f.method = m → f.locked = none → f.entered = [] → (doReturn e (T.setTop f) acts v).1 = T.setFrames fs) → Steps p.tables e below (T.setTop (mkF m pc Ls st)) (T.setFrames fs))
    (hq : Q v T.heap locs) (hc : cells ≤ C) (hs : slots ≤ S) : own_E p.tables e below (own_End s below Q C S) (T.setTop (mkF m pc Ls st)) := by
  obtain ⟨fs, hr, hrun, hended, hW, hsame⟩ := X.leave hv hlocks
  exact ⟨_, _, hst fs hr, hrun, hended, v, locs, rfl, hq, ⟨_, rfl⟩, hW, hsame.mono hc hs⟩
theorem own_retN (X : Stand p l e R s m args below meth c T locs cells slots) (hx : p.tables.exec = Jvm.exec) (hby : c.code = B) {Q : Option Value → Heap → List Loc → Prop} {C S : Nat} {t : FieldType} {z z' : Int32} (hlocks : meth.locks = false) (hret : meth.sig.returnType = some t) (ht : t = .boolean ∨ t = .byte ∨ t = .char ∨ t = .short)
    (hd : decode B pc = .ok (.ireturn, 1)) (hz : nar t z = z') (hq : Q (some (.int z')) T.heap locs) (hc : cells ≤ C) (hs : slots ≤ S) : own_E p.tables e below (own_End s below Q C S) (T.setTop (mkF m pc Ls (.int z :: st))) :=
  own_ret X (fun h => by rw [hret] at h; cases h) hlocks (fun fs hl => retN X hx (t := t) hret ht (hb hby hd) (by rw [hz]; exact hl)) hq hc hs
theorem own_retI (X : Stand p l e R s m args below meth c T locs cells slots) (hx : p.tables.exec = Jvm.exec) (hby : c.code = B) {Q : Option Value → Heap → List Loc → Prop} {C S : Nat} {z : Int32} (hlocks : meth.locks = false) (hret : meth.sig.returnType = some .int)
    (hd : decode B pc = .ok (.ireturn, 1)) (hq : Q (some (.int z)) T.heap locs) (hc : cells ≤ C) (hs : slots ≤ S) : own_E p.tables e below (own_End s below Q C S) (T.setTop (mkF m pc Ls (.int z :: st))) :=
  own_ret X (fun h => by rw [hret] at h; cases h) hlocks (fun fs hl => retOut X hx hret rfl (Or.inl ⟨rfl, Or.inl rfl, _, rfl⟩) (hb hby hd) hl) hq hc hs
theorem own_retL (X : Stand p l e R s m args below meth c T locs cells slots) (hx : p.tables.exec = Jvm.exec) (hby : c.code = B) {Q : Option Value → Heap → List Loc → Prop} {C S : Nat} {z : Int64} (hlocks : meth.locks = false) (hret : meth.sig.returnType = some .long)
    (hd : decode B pc = .ok (.lreturn, 1)) (hq : Q (some (.long z)) T.heap locs) (hc : cells ≤ C) (hs : slots ≤ S) : own_E p.tables e below (own_End s below Q C S) (T.setTop (mkF m pc Ls (.long z :: st))) :=
  own_ret X (fun h => by rw [hret] at h; cases h) hlocks (fun fs hl => retOut X hx hret rfl (Or.inr (Or.inl ⟨rfl, rfl, _, rfl⟩)) (hb hby hd) hl) hq hc hs
theorem own_retD (X : Stand p l e R s m args below meth c T locs cells slots) (hx : p.tables.exec = Jvm.exec) (hby : c.code = B) {Q : Option Value → Heap → List Loc → Prop} {C S : Nat} {z : UInt64} (hlocks : meth.locks = false) (hret : meth.sig.returnType = some .double)
    (hd : decode B pc = .ok (.dreturn, 1)) (hq : Q (some (.double z)) T.heap locs) (hc : cells ≤ C) (hs : slots ≤ S) : own_E p.tables e below (own_End s below Q C S) (T.setTop (mkF m pc Ls (.double z :: st))) :=
  own_ret X (fun h => by rw [hret] at h; cases h) hlocks (fun fs hl => retOut X hx hret rfl (Or.inr (Or.inr (Or.inl ⟨rfl, rfl, _, rfl⟩))) (hb hby hd) hl) hq hc hs
theorem own_retA (X : Stand p l e R s m args below meth c T locs cells slots) (hx : p.tables.exec = Jvm.exec) (hby : c.code = B) {Q : Option Value → Heap → List Loc → Prop} {C S : Nat} {t : FieldType} {v : Value} (hlocks : meth.locks = false) (hret : meth.sig.returnType = some t) (ht : t.isReference = true) (hv : v.isRef = true)
    (hd : decode B pc = .ok (.areturn, 1)) (hq : Q (some v) T.heap locs) (hc : cells ≤ C) (hs : slots ≤ S) : own_E p.tables e below (own_End s below Q C S) (T.setTop (mkF m pc Ls (v :: st))) :=
  own_ret X (fun h => by rw [hret] at h; cases h) hlocks (fun fs hl => retOut X hx hret (by cases t <;> first | (cases ht; done) | (rcases ref_cases hv with rfl | ⟨_, rfl⟩ <;> rfl)) (Or.inr (Or.inr (Or.inr (Or.inr ⟨rfl, ht, hv⟩)))) (hb hby hd) hl) hq hc hs
theorem own_ret0 (X : Stand p l e R s m args below meth c T locs cells slots) (hx : p.tables.exec = Jvm.exec) (hby : c.code = B) {Q : Option Value → Heap → List Loc → Prop} {C S : Nat} (hlocks : meth.locks = false) (hret : meth.sig.returnType = none)
    (hd : decode B pc = .ok (.return_, 1)) (hq : Q none T.heap locs) (hc : cells ≤ C) (hs : slots ≤ S) : own_E p.tables e below (own_End s below Q C S) (T.setTop (mkF m pc Ls [])) :=
  own_ret X (fun _ => rfl) hlocks (fun fs hl => X.returnOut hx hret (hb hby hd) hl) hq hc hs
theorem own_callS (X : Stand p l e R s m args below meth c T locs cells slots) (hx : p.tables.exec = Jvm.exec) (hby : c.code = B) {Z : State} {a0 : Array Value} {h : Heap} {own : String} {index nl : Nat} {as' : Array Value} {W cc ss : Nat} {Q : Option Value → Heap → List Loc → Prop} {y : MethodName} {bytes : ByteArray} {maxL : Nat} {ret : Option FieldType} (hml : c.maxLocals = nl) (hZ : Z.Warmed39 s.vm) (hown : s.vm.findClass own = some m.cls)
    (w1 : (Cond.methodLink own index y).before a0 Z = true) (w2 : (Cond.static y).before a0 Z = true) (w3 : (Cond.initialized y.cls).before a0 Z = true) (w4 : (Cond.code y bytes maxL ret).before a0 Z = true) (hy : y.cls ≠ "java/lang/invoke/MethodHandle" ∧ y.cls ≠ "java/lang/invoke/VarHandle")
    (hK : Back l R p e below s args y 3 W (fun P a => a = as' ∧ P.U.heap = h ∧ P.cells + cc ≤ R.cells ∧ P.slots + ss ≤ R.slots) (fun P _ v B => ∃ L, Q v B.U.heap L ∧ B.locs = P.locs ++ L ∧ B.cells = P.cells + cc ∧ B.slots = P.slots + ss)) (hsz : Ls.size = nl) {argsL rest : List Value} {ps : List FieldType} {r : Option FieldType} (hpd : parseMethodDescriptor y.desc = some ⟨ps, r⟩) (hlen : argsL.length = ps.length) (hst : st = argsL.reverse ++ rest) (hW : (rest.map fun v => v.category).sum ≤ W)
    (hd : decode B pc = .ok (.invokestatic index, 3)) (hp : pc + 3 = pc') (hargs : argsL.toArray = as') (eT : T.heap = h) (hc : cells + cc ≤ R.cells) (hs : slots + ss ≤ R.slots)
    (k : ∀ (v : Option Value) (T' : State) (h' : Heap) (L : List Loc), Stand p l e R s m args below meth c T' (locs ++ L) (cells + cc) (slots + ss) → T'.heap = h' → Q v h' L → own_E p.tables e below G (T'.setTop (mkF m pc' Ls (v.toList ++ rest)))) : own_E p.tables e below G (T.setTop (mkF m pc Ls st)) := by
  subst hp
  obtain ⟨v, vm₁, ⟨T', L', k', n'⟩, -, X', ⟨L, hQ, q1, q2, q3⟩, stp⟩ := Jvm.LawKit.callS X hx hown (mvT hZ w1) (mvT hZ w2) (mvT hZ w3) (mvT hZ w4) hy hK (g := mkF m pc Ls st) rfl (by rw [hml]; exact hsz) (argsL := argsL) (rest := rest) (lenOf hpd hlen) hst (by show 2 * 0 + _ ≤ _; rw [Nat.mul_zero, Nat.zero_add]; exact hW) (hb hby hd) (fun _ _ => ⟨hargs, eT, hc, hs⟩)
  dsimp only at X' hQ q1 q2 q3 stp
  subst q1 q2 q3
  exact own_go stp (k v T' _ L X' rfl hQ)
theorem own_spec (X : Stand p l e R s m args below meth c T locs cells slots) (hx : p.tables.exec = Jvm.exec) (hby : c.code = B) {Z : State} {a0 : Array Value} {h : Heap} {own : String} {index nl : Nat} {as' : Array Value} {W cc ss : Nat} {Q : Option Value → Heap → List Loc → Prop} {y : MethodName} {bytes : ByteArray} {maxL : Nat} (hml : c.maxLocals = nl) (hZ : Z.Warmed39 s.vm) (hown : s.vm.findClass own = some m.cls) (hy1 : y.name = "<init>")
    (w1 : (Cond.methodLink own index y).before a0 Z = true) (w2 : (Cond.instanceMethod y).before a0 Z = true) (w4 : (Cond.code y bytes maxL none).before a0 Z = true) (hy : y.cls ≠ "java/lang/invoke/MethodHandle" ∧ y.cls ≠ "java/lang/invoke/VarHandle")
    (hK : Back l R p e below s args y 3 W (fun P a => a = as' ∧ P.U.heap = h ∧ P.cells + cc ≤ R.cells ∧ P.slots + ss ≤ R.slots) (fun P _ v B => ∃ L, Q v B.U.heap L ∧ B.locs = P.locs ++ L ∧ B.cells = P.cells + cc ∧ B.slots = P.slots + ss)) (hsz : Ls.size = nl) {a : Addr} {argsL rest : List Value} {ps : List FieldType} {r : Option FieldType} (hpd : parseMethodDescriptor y.desc = some ⟨ps, r⟩) (hlen : argsL.length = ps.length) (hst : st = argsL.reverse ++ .ref a :: rest) (hW : (rest.map fun v => v.category).sum ≤ W)
    (hd : decode B pc = .ok (.invokespecial index, 3)) (hp : pc + 3 = pc') (hargs : (.ref a :: argsL).toArray = as') (eT : T.heap = h) (hc : cells + cc ≤ R.cells) (hs : slots + ss ≤ R.slots)
    (k : ∀ (v : Option Value) (T' : State) (h' : Heap) (L : List Loc), Stand p l e R s m args below meth c T' (locs ++ L) (cells + cc) (slots + ss) → T'.heap = h' → Q v h' L → own_E p.tables e below G (T'.setTop (mkF m pc' Ls (v.toList ++ rest)))) : own_E p.tables e below G (T.setTop (mkF m pc Ls st)) := by
  subst hp
  obtain ⟨v, vm₁, ⟨T', L', k', n'⟩, -, X', ⟨L, hQ, q1, q2, q3⟩, stp⟩ := X.specialBack hx hy1 hown (mvT hZ w1) (mvT hZ w2) (mvT hZ w4) hy hK (g := mkF m pc Ls st) rfl (by rw [hml]; exact hsz) (Steps.refl _) (a := a) (argsL := argsL) (rest := rest) (lenOf hpd hlen) hst (by show 2 * 0 + _ ≤ _; rw [Nat.mul_zero, Nat.zero_add]; exact hW) (hb hby hd) (fun _ _ => ⟨hargs, eT, hc, hs⟩)
  dsimp only at X' hQ q1 q2 q3 stp
  subst q1 q2 q3
  exact own_tr stp (k v T' _ L X' rfl hQ)
theorem own_virt (X : Stand p l e R s m args below meth c T locs cells slots) (hx : p.tables.exec = Jvm.exec) (hby : c.code = B) {Z : State} {a0 : Array Value} {h : Heap} {own : String} {index nl : Nat} {as' : Array Value} {W cc ss : Nat} {Q : Option Value → Heap → List Loc → Prop} {C : String} {y z : MethodName} (hml : c.maxLocals = nl) (hZ : Z.Warmed39 s.vm) (hown : s.vm.findClass own = some m.cls)
    (w1 : (Cond.methodLink own index y).before a0 Z = true) (w2 : (Cond.declares y).before a0 Z = true) (hnf : NotFace s y) (w3 : (Cond.selects C y z).before a0 Z = true) (w4 : (Cond.instanceMethod z).before a0 Z = true) (hy : y.cls ≠ "java/lang/invoke/MethodHandle" ∧ y.cls ≠ "java/lang/invoke/VarHandle")
    (hK : Back l R p e below s args z 3 W (fun P a => a = as' ∧ P.U.heap = h ∧ P.cells + cc ≤ R.cells ∧ P.slots + ss ≤ R.slots) (fun P _ v B => ∃ L, Q v B.U.heap L ∧ B.locs = P.locs ++ L ∧ B.cells = P.cells + cc ∧ B.slots = P.slots + ss)) (hsz : Ls.size = nl) {a : Addr} (hE : Exa Z h a C) {argsL rest : List Value} {ps : List FieldType} {r : Option FieldType} (hpd : parseMethodDescriptor y.desc = some ⟨ps, r⟩) (hlen : argsL.length = ps.length) (hst : st = argsL.reverse ++ .ref a :: rest) (hW : (rest.map fun v => v.category).sum ≤ W)
    (hd : decode B pc = .ok (.invokevirtual index, 3)) (hp : pc + 3 = pc') (hargs : (.ref a :: argsL).toArray = as') (eT : T.heap = h) (hc : cells + cc ≤ R.cells) (hs : slots + ss ≤ R.slots)
    (k : ∀ (v : Option Value) (T' : State) (h' : Heap) (L : List Loc), Stand p l e R s m args below meth c T' (locs ++ L) (cells + cc) (slots + ss) → T'.heap = h' → Q v h' L → own_E p.tables e below G (T'.setTop (mkF m pc' Ls (v.toList ++ rest)))) : own_E p.tables e below G (T.setTop (mkF m pc Ls st)) := by
  subst hp
  obtain ⟨cq, kq, qa, qb, qc⟩ := isOf hZ eT hE
  obtain ⟨v, vm₁, ⟨T', L', k', n'⟩, -, X', ⟨L, hQ, q1, q2, q3⟩, stp⟩ := X.virtualBack hx hown (mvT hZ w1) (mvT hZ w2) hnf (mvT hZ w3) (mvT hZ w4) hy hK qa qc (g := mkF m pc Ls st) rfl (by rw [hml]; exact hsz) (Steps.refl _) (argsL := argsL) (rest := rest) (lenOf hpd hlen) hst (by show 2 * 0 + _ ≤ _; rw [Nat.mul_zero, Nat.zero_add]; exact hW) (hb hby hd) (fun _ _ => ⟨hargs, eT, hc, hs⟩)
  dsimp only at X' hQ q1 q2 q3 stp
  subst q1 q2 q3
  exact own_tr stp (k v T' _ L X' rfl hQ)
theorem own_priv (X : Stand p l e R s m args below meth c T locs cells slots) (hx : p.tables.exec = Jvm.exec) (hby : c.code = B) {Z : State} {a0 : Array Value} {h : Heap} {own : String} {index nl : Nat} {as' : Array Value} {W cc ss : Nat} {Q : Option Value → Heap → List Loc → Prop} {y : MethodName} {bytes : ByteArray} {maxL : Nat} {ret : Option FieldType} (hml : c.maxLocals = nl) (hZ : Z.Warmed39 s.vm) (hown : s.vm.findClass own = some m.cls)
    (w1 : (Cond.methodLink own index y).before a0 Z = true) (w2 : (Cond.instanceMethod y).before a0 Z = true) (w3 : (Cond.selects y.cls y y).before a0 Z = true) (w5 : (Cond.privateMethod y).before a0 Z = true) (w4 : (Cond.code y bytes maxL ret).before a0 Z = true) (hy : y.cls ≠ "java/lang/invoke/MethodHandle" ∧ y.cls ≠ "java/lang/invoke/VarHandle")
    (hK : Back l R p e below s args y 3 W (fun P a => a = as' ∧ P.U.heap = h ∧ P.cells + cc ≤ R.cells ∧ P.slots + ss ≤ R.slots) (fun P _ v B => ∃ L, Q v B.U.heap L ∧ B.locs = P.locs ++ L ∧ B.cells = P.cells + cc ∧ B.slots = P.slots + ss)) (hsz : Ls.size = nl) {a : Addr} {C : String} (hE : Exa Z h a C) {argsL rest : List Value} {ps : List FieldType} {r : Option FieldType} (hpd : parseMethodDescriptor y.desc = some ⟨ps, r⟩) (hlen : argsL.length = ps.length) (hst : st = argsL.reverse ++ .ref a :: rest) (hW : (rest.map fun v => v.category).sum ≤ W)
    (hd : decode B pc = .ok (.invokevirtual index, 3)) (hp : pc + 3 = pc') (hargs : (.ref a :: argsL).toArray = as') (eT : T.heap = h) (hc : cells + cc ≤ R.cells) (hs : slots + ss ≤ R.slots)
    (k : ∀ (v : Option Value) (T' : State) (h' : Heap) (L : List Loc), Stand p l e R s m args below meth c T' (locs ++ L) (cells + cc) (slots + ss) → T'.heap = h' → Q v h' L → own_E p.tables e below G (T'.setTop (mkF m pc' Ls (v.toList ++ rest)))) : own_E p.tables e below G (T.setTop (mkF m pc Ls st)) := by
  subst hp
  obtain ⟨cq, qa, qb⟩ := hE.cell
  obtain ⟨v, vm₁, ⟨T', L', k', n'⟩, -, X', ⟨L, hQ, q1, q2, q3⟩, stp⟩ := X.privateBack hx hown (mvT hZ w1) (mvT hZ w2) (mvT hZ w3) (Cond.privateMethod_at (mvP hZ w5 (args := #[]))) (mvT hZ w4) hy hK (g := mkF m pc Ls st) rfl (by rw [hml]; exact hsz) (Steps.refl _) (a := a) (by rw [eT]; exact qa) qb (argsL := argsL) (rest := rest) (lenOf hpd hlen) hst (by show 2 * 0 + _ ≤ _; rw [Nat.mul_zero, Nat.zero_add]; exact hW) (hb hby hd) (fun _ _ => ⟨hargs, eT, hc, hs⟩)
  dsimp only at X' hQ q1 q2 q3 stp
  subst q1 q2 q3
  exact own_tr stp (k v T' _ L X' rfl hQ)
theorem own_intf (X : Stand p l e R s m args below meth c T locs cells slots) (hx : p.tables.exec = Jvm.exec) (hby : c.code = B) {Z : State} {a0 : Array Value} {h : Heap} {own : String} {index nl : Nat} {as' : Array Value} {W cc ss : Nat} {Q : Option Value → Heap → List Loc → Prop} {C : String} {y z : MethodName} {cnt : Nat} (hml : c.maxLocals = nl) (hZ : Z.Warmed39 s.vm) (hown : s.vm.findClass own = some m.cls)
    (w1 : (Cond.methodLink own index y).before args s = true) (w2 : (Cond.declares y).before args s = true) (w5 : (Cond.interfaceMethod y.cls y.cls y.name y.desc).before args s = true) (w3 : (Cond.selects C y z).before args s = true) (w4 : (Cond.instanceMethod z).before args s = true) (w6 : (Cond.publicMethod z).before args s = true) (w7 : (Cond.unhidden C y.name y.desc).before args s = true) (w8 : (Cond.castable C y.cls).before args s = true) (hy : y.cls ≠ "java/lang/invoke/MethodHandle" ∧ y.cls ≠ "java/lang/invoke/VarHandle")
    (hK : Back l R p e below s args z 5 W (fun P a => a = as' ∧ P.U.heap = h ∧ P.cells + cc ≤ R.cells ∧ P.slots + ss ≤ R.slots) (fun P _ v B => ∃ L, Q v B.U.heap L ∧ B.locs = P.locs ++ L ∧ B.cells = P.cells + cc ∧ B.slots = P.slots + ss)) (hsz : Ls.size = nl) {a : Addr} (hE : Exa Z h a C) {argsL rest : List Value} {ps : List FieldType} {r : Option FieldType} (hpd : parseMethodDescriptor y.desc = some ⟨ps, r⟩) (hlen : argsL.length = ps.length) (hst : st = argsL.reverse ++ .ref a :: rest) (hW : (rest.map fun v => v.category).sum ≤ W)
    (hd : decode B pc = .ok (.invokeinterface index cnt, 5)) (hp : pc + 5 = pc') (hargs : (.ref a :: argsL).toArray = as') (eT : T.heap = h) (hc : cells + cc ≤ R.cells) (hs : slots + ss ≤ R.slots)
    (k : ∀ (v : Option Value) (T' : State) (h' : Heap) (L : List Loc), Stand p l e R s m args below meth c T' (locs ++ L) (cells + cc) (slots + ss) → T'.heap = h' → Q v h' L → own_E p.tables e below G (T'.setTop (mkF m pc' Ls (v.toList ++ rest)))) : own_E p.tables e below G (T.setTop (mkF m pc Ls st)) := by
  subst hp
  obtain ⟨cq, kq, qa, qb, qc⟩ := isOf hZ eT hE
  obtain ⟨v, vm₁, ⟨T', L', k', n'⟩, -, X', ⟨L, hQ, q1, q2, q3⟩, stp⟩ := X.interfaceBack hx hown w1 w2 w5 w3 w4 w6 w7 w8 hy hK qa qb qc (g := mkF m pc Ls st) rfl (by rw [hml]; exact hsz) (Steps.refl _) (argsL := argsL) (rest := rest) (lenOf hpd hlen) hst (by show 2 * 0 + _ ≤ _; rw [Nat.mul_zero, Nat.zero_add]; exact hW) (hb hby hd) (fun _ _ => ⟨hargs, eT, hc, hs⟩)
  dsimp only at X' hQ q1 q2 q3 stp
  subst q1 q2 q3
  exact own_tr stp (k v T' _ L X' rfl hQ)
end OwnSteps

section OwnHeap
variable {p : Program} {l : Launch} {e : Env} {R : Room} {s : State} {m : MethodId} {args : Array Value} {below : List Frame} {meth : Method} {c : Code} {T : State} {locs : List Loc} {cells slots : Nat} {G : State → Outcome → Prop} {B : ByteArray} {pc pc' : Nat} {Ls Ls' : Array Slot} {st : List Value} {Z : State} {a0 : Array Value} {h h' h'' : Heap}
theorem own_xr : Ext h h := ⟨Nat.le_refl _, fun _ _ q => q⟩
theorem own_xt (E : Ext h h') (E' : Ext h' h'') : Ext h h'' := ⟨Nat.le_trans E.1 E'.1, fun a c q => E'.2 a c (E.2 a c q)⟩
theorem own_xk {ws : List Addr} (E : Ext h h') (K : Keep h' h'' ws) (q : ∀ x ∈ ws, h.size ≤ x) : Ext h h'' := ⟨Nat.le_trans E.1 K.1, fun a c r => K.2.1 a c (E.2 a c r) fun z => absurd (Array.getElem?_eq_some_iff.mp r).1 (Nat.not_lt.mpr (q a z))⟩
theorem own_xw {a : Addr} {sl : Nat} {v : Value} (E : Ext h h') (W : Wr h' h'' a sl v) (q : h.size ≤ a) : Ext h h'' := own_xk E (Keep.of_wr W) (allS q all0)
theorem own_kx {ws : List Addr} (E : Ext h h') : Keep h h' ws := (Keep.refl h ws).ext E
theorem own_fr1 {k : Nat} {L : List Loc} (N : Fr k L) {a : Addr} {sl : Nat} (q : k ≤ a) : Fr k (L ++ [⟨a, sl⟩]) := N.app fun y hy => by cases List.mem_singleton.mp hy; exact q
/-- a body's contract: called with these arguments over the heap h0 it returns as Q says -/
def own_Met (l : Launch) (Z : State) (x : MethodName) (bytes : ByteArray) (maxL : Nat) (ret : Option FieldType) (rm : Room) (as' : Array Value) (h0 : Heap) (Q : Option Value → Heap → List Loc → Prop) : Prop :=
  ∀ ws : List Jvm.Cond, MetFree l x (head1 (Jvm.Cond.code x bytes maxL ret :: ws) rm) (fun a U => a = as' ∧ Z.Warmed39 U.vm ∧ U.heap = h0) (fun _ _ _ _ _ => True) (fun _ U o U' => ∃ v L, o = .returned v ∧ Q v U'.heap L ∧ FrameEnd U o U' L rm.cells rm.slots)
theorem own_body {x : MethodName} {bytes : ByteArray} {maxL : Nat} {ret : Option FieldType} {rm : Room} {as' : Array Value} {h0 : Heap} {Q : Option Value → Heap → List Loc → Prop} (hpl : plainFor x = true)
    (body : ∀ (p : Program) (e : Env) (s : State) (m : MethodId) (below : List Frame) (meth : Method) (c : Code) (s₁ : State), p.tables.exec = Jvm.exec → c.code = bytes → c.maxLocals = maxL → s.vm.findClass x.cls = some m.cls → meth.name = x.name → meth.locks = false → meth.sig.returnType = ret → Z.Warmed39 s.vm → Stand p l e rm s m as' below meth c s₁ [] 0 0 → s₁.heap = h0 →
      own_E p.tables e below (own_End s below Q rm.cells rm.slots) (s₁.setTop (entryFrame m as' maxL))) : own_Met l Z x bytes maxL ret rm as' h0 Q := by
  intro ws
  refine MetFree.of_bodySF hpl hisR ?_
  intro p e s m args below meth c s₁ Bd hml0 hP hK
  obtain ⟨rfl, hZ, hh⟩ := hP
  obtain ⟨s₂, o, q1, q2, q3, q4⟩ := body p e s m below meth c s₁ Bd.exec Bd.bytes hml0 (findClass_of_methodNamed Bd.named) (name_of_methodNamed Bd.named Bd.method).1 (BodyLoose.notSynchronized Bd) Bd.returns hZ (Stand.of_body Bd) (by rw [← hh, Bd.state]; rfl)
  exact ⟨s₂, o, q1, q2, q3, q4⟩
theorem own_back {y : MethodName} {bytes : ByteArray} {maxL : Nat} {ret : Option FieldType} {rm : Room} {len W : Nat} {as' : Array Value} {Q : Option Value → Heap → List Loc → Prop} (hM : own_Met l Z y bytes maxL ret rm as' h Q)
    (hZ : Z.Warmed39 s.vm) (wc : (Jvm.Cond.code y bytes maxL ret).before a0 Z = true) (wz : (Jvm.Cond.initialized y.cls).before a0 Z = true) (hf : rm.frames + 1 ≤ R.frames) (hl : W + (maxL + 11) + rm.locals ≤ R.locals) :
    Back l R p e below s args y len W (fun A a => a = as' ∧ A.U.heap = h ∧ A.cells + rm.cells ≤ R.cells ∧ A.slots + rm.slots ≤ R.slots)
      (fun A _ v B => ∃ L, Q v B.U.heap L ∧ B.locs = A.locs ++ L ∧ B.cells = A.cells + rm.cells ∧ B.slots = A.slots + rm.slots) := backOf (hM []) hZ wc wz hf hl
theorem own_enter {m : MethodId} {A : Array Value} {ml : Nat} {Ls : Array Slot} (ef : entryFrame m A ml = mkF m 0 Ls []) (k : own_E p.tables e below G (T.setTop (mkF m 0 Ls []))) : own_E p.tables e below G (T.setTop (entryFrame m A ml)) := own_go (fun _ q => castTop ef q) k
theorem own_callM (X : Stand p l e R s m args below meth c T locs cells slots) (hx : p.tables.exec = Jvm.exec) (hby : c.code = B) {own : String} {index nl : Nat} {as' : Array Value} {cc ss maxL : Nat} {bytes : ByteArray} {ret : Option FieldType} {rm : Room} {Q : Option Value → Heap → List Loc → Prop} {y : MethodName} (hml : c.maxLocals = nl) (hZ : Z.Warmed39 s.vm) (hown : s.vm.findClass own = some m.cls) (w1 : (Jvm.Cond.methodLink own index y).before a0 Z = true) (w2 : (Jvm.Cond.static y).before a0 Z = true) (w3 : (Jvm.Cond.initialized y.cls).before a0 Z = true) (w4 : (Jvm.Cond.code y bytes maxL ret).before a0 Z = true) (hy : y.cls ≠ "java/lang/invoke/MethodHandle" ∧ y.cls ≠ "java/lang/invoke/VarHandle")
    (hM : own_Met l Z y bytes maxL ret rm as' h Q) (W : Nat) (hcc : rm.cells = cc) (hss : rm.slots = ss) (hf : rm.frames + 1 ≤ R.frames) (hl : W + (maxL + 11) + rm.locals ≤ R.locals) (hsz : Ls.size = nl) {argsL rest : List Value} {ps : List FieldType} {r : Option FieldType} (hpd : parseMethodDescriptor y.desc = some ⟨ps, r⟩) (hlen : argsL.length = ps.length) (hst : st = argsL.reverse ++ rest) (hW : (rest.map fun v => v.category).sum ≤ W) (hd : decode B pc = .ok (.invokestatic index, 3)) (hp : pc + 3 = pc') (hargs : argsL.toArray = as') (eT : T.heap = h) (hc : cells + cc ≤ R.cells) (hs : slots + ss ≤ R.slots)
    (k : ∀ (v : Option Value) (T' : State) (h' : Heap) (L : List Loc), Stand p l e R s m args below meth c T' (locs ++ L) (cells + cc) (slots + ss) → T'.heap = h' → Q v h' L → own_E p.tables e below G (T'.setTop (mkF m pc' Ls (v.toList ++ rest)))) : own_E p.tables e below G (T.setTop (mkF m pc Ls st)) := by
  subst hcc hss
  exact own_callS X hx hby hml hZ hown w1 w2 w3 w4 hy (own_back hM hZ w4 w3 hf hl) hsz hpd hlen hst hW hd hp hargs eT hc hs k
theorem own_specM (X : Stand p l e R s m args below meth c T locs cells slots) (hx : p.tables.exec = Jvm.exec) (hby : c.code = B) {own : String} {index nl : Nat} {as' : Array Value} {cc ss maxL : Nat} {bytes : ByteArray} {rm : Room} {Q : Option Value → Heap → List Loc → Prop} {y : MethodName} (hml : c.maxLocals = nl) (hZ : Z.Warmed39 s.vm) (hown : s.vm.findClass own = some m.cls) (hy1 : y.name = "<init>") (w1 : (Jvm.Cond.methodLink own index y).before a0 Z = true) (w2 : (Jvm.Cond.instanceMethod y).before a0 Z = true) (w3 : (Jvm.Cond.initialized y.cls).before a0 Z = true) (w4 : (Jvm.Cond.code y bytes maxL none).before a0 Z = true) (hy : y.cls ≠ "java/lang/invoke/MethodHandle" ∧ y.cls ≠ "java/lang/invoke/VarHandle")
    (hM : own_Met l Z y bytes maxL none rm as' h Q) (W : Nat) (hcc : rm.cells = cc) (hss : rm.slots = ss) (hf : rm.frames + 1 ≤ R.frames) (hl : W + (maxL + 11) + rm.locals ≤ R.locals) (hsz : Ls.size = nl) {a : Addr} {argsL rest : List Value} {ps : List FieldType} {r : Option FieldType} (hpd : parseMethodDescriptor y.desc = some ⟨ps, r⟩) (hlen : argsL.length = ps.length) (hst : st = argsL.reverse ++ .ref a :: rest) (hW : (rest.map fun v => v.category).sum ≤ W) (hd : decode B pc = .ok (.invokespecial index, 3)) (hp : pc + 3 = pc') (hargs : (.ref a :: argsL).toArray = as') (eT : T.heap = h) (hc : cells + cc ≤ R.cells) (hs : slots + ss ≤ R.slots)
    (k : ∀ (v : Option Value) (T' : State) (h' : Heap) (L : List Loc), Stand p l e R s m args below meth c T' (locs ++ L) (cells + cc) (slots + ss) → T'.heap = h' → Q v h' L → own_E p.tables e below G (T'.setTop (mkF m pc' Ls (v.toList ++ rest)))) : own_E p.tables e below G (T.setTop (mkF m pc Ls st)) := by
  subst hcc hss
  exact own_spec X hx hby hml hZ hown hy1 w1 w2 w4 hy (own_back hM hZ w4 w3 hf hl) hsz hpd hlen hst hW hd hp hargs eT hc hs k
theorem own_virtM (X : Stand p l e R s m args below meth c T locs cells slots) (hx : p.tables.exec = Jvm.exec) (hby : c.code = B) {own : String} {index nl : Nat} {as' : Array Value} {cc ss maxL : Nat} {bytes : ByteArray} {ret : Option FieldType} {rm : Room} {Q : Option Value → Heap → List Loc → Prop} {C : String} {y z : MethodName} (hml : c.maxLocals = nl) (hZ : Z.Warmed39 s.vm) (hown : s.vm.findClass own = some m.cls) (w1 : (Jvm.Cond.methodLink own index y).before a0 Z = true) (w2 : (Jvm.Cond.declares y).before a0 Z = true) (hnf : NotFace s y) (w5 : (Jvm.Cond.selects C y z).before a0 Z = true) (w6 : (Jvm.Cond.instanceMethod z).before a0 Z = true) (w3 : (Jvm.Cond.initialized z.cls).before a0 Z = true) (w4 : (Jvm.Cond.code z bytes maxL ret).before a0 Z = true) (hy : y.cls ≠ "java/lang/invoke/MethodHandle" ∧ y.cls ≠ "java/lang/invoke/VarHandle")
    (hM : own_Met l Z z bytes maxL ret rm as' h Q) (W : Nat) (hcc : rm.cells = cc) (hss : rm.slots = ss) (hf : rm.frames + 1 ≤ R.frames) (hl : W + (maxL + 11) + rm.locals ≤ R.locals) (hsz : Ls.size = nl) {a : Addr} (hE : Exa Z h a C) {argsL rest : List Value} {ps : List FieldType} {r : Option FieldType} (hpd : parseMethodDescriptor y.desc = some ⟨ps, r⟩) (hlen : argsL.length = ps.length) (hst : st = argsL.reverse ++ .ref a :: rest) (hW : (rest.map fun v => v.category).sum ≤ W) (hd : decode B pc = .ok (.invokevirtual index, 3)) (hp : pc + 3 = pc') (hargs : (.ref a :: argsL).toArray = as') (eT : T.heap = h) (hc : cells + cc ≤ R.cells) (hs : slots + ss ≤ R.slots)
    (k : ∀ (v : Option Value) (T' : State) (h' : Heap) (L : List Loc), Stand p l e R s m args below meth c T' (locs ++ L) (cells + cc) (slots + ss) → T'.heap = h' → Q v h' L → own_E p.tables e below G (T'.setTop (mkF m pc' Ls (v.toList ++ rest)))) : own_E p.tables e below G (T.setTop (mkF m pc Ls st)) := by
  subst hcc hss
  exact own_virt X hx hby hml hZ hown w1 w2 hnf w5 w6 hy (own_back hM hZ w4 w3 hf hl) hsz hE hpd hlen hst hW hd hp hargs eT hc hs k
theorem own_privM (X : Stand p l e R s m args below meth c T locs cells slots) (hx : p.tables.exec = Jvm.exec) (hby : c.code = B) {own : String} {index nl : Nat} {as' : Array Value} {cc ss maxL : Nat} {bytes : ByteArray} {ret : Option FieldType} {rm : Room} {Q : Option Value → Heap → List Loc → Prop} {C : String} {y : MethodName} (hml : c.maxLocals = nl) (hZ : Z.Warmed39 s.vm) (hown : s.vm.findClass own = some m.cls) (w1 : (Jvm.Cond.methodLink own index y).before a0 Z = true) (w6 : (Jvm.Cond.instanceMethod y).before a0 Z = true) (w5 : (Jvm.Cond.selects y.cls y y).before a0 Z = true) (w7 : (Jvm.Cond.privateMethod y).before a0 Z = true) (w3 : (Jvm.Cond.initialized y.cls).before a0 Z = true) (w4 : (Jvm.Cond.code y bytes maxL ret).before a0 Z = true) (hy : y.cls ≠ "java/lang/invoke/MethodHandle" ∧ y.cls ≠ "java/lang/invoke/VarHandle")
    (hM : own_Met l Z y bytes maxL ret rm as' h Q) (W : Nat) (hcc : rm.cells = cc) (hss : rm.slots = ss) (hf : rm.frames + 1 ≤ R.frames) (hl : W + (maxL + 11) + rm.locals ≤ R.locals) (hsz : Ls.size = nl) {a : Addr} (hE : Exa Z h a C) {argsL rest : List Value} {ps : List FieldType} {r : Option FieldType} (hpd : parseMethodDescriptor y.desc = some ⟨ps, r⟩) (hlen : argsL.length = ps.length) (hst : st = argsL.reverse ++ .ref a :: rest) (hW : (rest.map fun v => v.category).sum ≤ W) (hd : decode B pc = .ok (.invokevirtual index, 3)) (hp : pc + 3 = pc') (hargs : (.ref a :: argsL).toArray = as') (eT : T.heap = h) (hc : cells + cc ≤ R.cells) (hs : slots + ss ≤ R.slots)
    (k : ∀ (v : Option Value) (T' : State) (h' : Heap) (L : List Loc), Stand p l e R s m args below meth c T' (locs ++ L) (cells + cc) (slots + ss) → T'.heap = h' → Q v h' L → own_E p.tables e below G (T'.setTop (mkF m pc' Ls (v.toList ++ rest)))) : own_E p.tables e below G (T.setTop (mkF m pc Ls st)) := by
  subst hcc hss
  exact own_priv X hx hby hml hZ hown w1 w6 w5 w7 w4 hy (own_back hM hZ w4 w3 hf hl) hsz hE hpd hlen hst hW hd hp hargs eT hc hs k
theorem own_intfM (X : Stand p l e R s m args below meth c T locs cells slots) (hx : p.tables.exec = Jvm.exec) (hby : c.code = B) {own : String} {index nl : Nat} {as' : Array Value} {cc ss maxL : Nat} {bytes : ByteArray} {ret : Option FieldType} {rm : Room} {Q : Option Value → Heap → List Loc → Prop} {C : String} {y z : MethodName} {cnt : Nat} (hml : c.maxLocals = nl) (hZ : Z.Warmed39 s.vm) (hown : s.vm.findClass own = some m.cls) (w1 : (Jvm.Cond.methodLink own index y).before args s = true) (w2 : (Jvm.Cond.declares y).before args s = true) (w5 : (Jvm.Cond.interfaceMethod y.cls y.cls y.name y.desc).before args s = true) (w6 : (Jvm.Cond.selects C y z).before args s = true) (w7 : (Jvm.Cond.instanceMethod z).before args s = true) (w8 : (Jvm.Cond.publicMethod z).before args s = true) (w9 : (Jvm.Cond.unhidden C y.name y.desc).before args s = true) (w10 : (Jvm.Cond.castable C y.cls).before args s = true) (w3 : (Jvm.Cond.initialized z.cls).before a0 Z = true) (w4 : (Jvm.Cond.code z bytes maxL ret).before a0 Z = true) (hy : y.cls ≠ "java/lang/invoke/MethodHandle" ∧ y.cls ≠ "java/lang/invoke/VarHandle")
    (hM : own_Met l Z z bytes maxL ret rm as' h Q) (W : Nat) (hcc : rm.cells = cc) (hss : rm.slots = ss) (hf : rm.frames + 1 ≤ R.frames) (hl : W + (maxL + 11) + rm.locals ≤ R.locals) (hsz : Ls.size = nl) {a : Addr} (hE : Exa Z h a C) {argsL rest : List Value} {ps : List FieldType} {r : Option FieldType} (hpd : parseMethodDescriptor y.desc = some ⟨ps, r⟩) (hlen : argsL.length = ps.length) (hst : st = argsL.reverse ++ .ref a :: rest) (hW : (rest.map fun v => v.category).sum ≤ W) (hd : decode B pc = .ok (.invokeinterface index cnt, 5)) (hp : pc + 5 = pc') (hargs : (.ref a :: argsL).toArray = as') (eT : T.heap = h) (hc : cells + cc ≤ R.cells) (hs : slots + ss ≤ R.slots)
    (k : ∀ (v : Option Value) (T' : State) (h' : Heap) (L : List Loc), Stand p l e R s m args below meth c T' (locs ++ L) (cells + cc) (slots + ss) → T'.heap = h' → Q v h' L → own_E p.tables e below G (T'.setTop (mkF m pc' Ls (v.toList ++ rest)))) : own_E p.tables e below G (T.setTop (mkF m pc Ls st)) := by
  subst hcc hss
  exact own_intf (a0 := a0) X hx hby hml hZ hown w1 w2 w5 w6 w7 w8 w9 w10 hy (own_back hM hZ w4 w3 hf hl) hsz hE hpd hlen hst hW hd hp hargs eT hc hs k
theorem own_newO (X : Stand p l e R s m args below meth c T locs cells slots) (hx : p.tables.exec = Jvm.exec) (hby : c.code = B) (hZ : Z.Warmed39 s.vm) {own C : String} {index n : Nat} (hown : s.vm.findClass own = some m.cls) (w : (Jvm.Cond.classLink own index C).before a0 Z = true) (wi : (Jvm.Cond.instantiable C n).before a0 Z = true) (wz : (Jvm.Cond.initialized C).before a0 Z = true) (eT : T.heap = h)
    (hd : decode B pc = .ok (.new index, 3)) (hp : pc + 3 = pc') (hc : cells + 1 ≤ R.cells) (hl : slots + n ≤ R.slots)
    (k : ∀ (T' : State) (h' : Heap) (b : Addr), b = h.size → Stand p l e R s m args below meth c T' locs (cells + 1) (slots + n) → T'.heap = h' → Ext h h' → Exa Z h' b C → (∀ {O nm d : String} {ty : FieldType}, Laid Z a0 C O nm d → parseFieldDescriptor d = some ty → Fld Z h' b O nm d (defaultValue ty)) → own_E p.tables e below G (T'.setTop (mkF m pc' Ls (.ref b :: st)))) : own_E p.tables e below G (T.setTop (mkF m pc Ls (st))) := by
  subst hp
  obtain ⟨T', h', X', e', E', A', D', -, stp⟩ := newO X hx hZ hown w wi wz eT (g := mkF m pc Ls st) rfl (hb hby hd) hc hl
  exact own_go stp (k T' h' _ rfl X' e' E' A' D')
theorem own_newP (X : Stand p l e R s m args below meth c T locs cells slots) (hx : p.tables.exec = Jvm.exec) (hby : c.code = B) (hZ : Z.Warmed39 s.vm) {aty : ArrayType} (w : (Jvm.Cond.arrayClass (newarray.typeOf aty)).before a0 Z = true) (eT : T.heap = h) {n : Int32} {cap : Nat} (hd : decode B pc = .ok (.newarray aty, 2)) (hp : pc + 2 = pc') (hn : ¬ n < 0) (hcap : n.toNatClampNeg ≤ cap) (hbig : cap * 8 ≤ 536870912) (hc : cells + 1 ≤ R.cells) (hl : slots + cap ≤ R.slots)
    (k : ∀ (T' : State) (h' : Heap) (b : Addr) (kA : ClassId), b = h.size → Stand p l e R s m args below meth c T' locs (cells + 1) (slots + cap) → T'.heap = h' → Ext h h' → Arv Z h' b kA (newarray.typeOf aty) n [] (defaultValue (newarray.typeOf aty)) → own_E p.tables e below G (T'.setTop (mkF m pc' Ls (.ref b :: st)))) : own_E p.tables e below G (T.setTop (mkF m pc Ls (.int n :: st))) := by
  subst hp
  obtain ⟨T', h', kA, X', e', E', A', stp⟩ := newP X hx hZ w eT (g := mkF m pc Ls (.int n :: st)) rfl (hb hby hd) rfl hn hcap hbig hc hl
  exact own_go stp (k T' h' _ kA rfl X' e' E' (Arv.new A' hn))
theorem own_newR (X : Stand p l e R s m args below meth c T locs cells slots) (hx : p.tables.exec = Jvm.exec) (hby : c.code = B) (hZ : Z.Warmed39 s.vm) {own C : String} {index : Nat} (hown : s.vm.findClass own = some m.cls) (w1 : (Jvm.Cond.classLink own index C).before a0 Z = true) (w2 : (Jvm.Cond.arrayOver (.object C)).before a0 Z = true) (eT : T.heap = h) {n : Int32} {cap : Nat} (hd : decode B pc = .ok (.anewarray index, 3)) (hp : pc + 3 = pc') (hn : ¬ n < 0) (hcap : n.toNatClampNeg ≤ cap) (hbig : cap * 8 ≤ 536870912) (hc : cells + 1 ≤ R.cells) (hl : slots + cap ≤ R.slots)
    (k : ∀ (T' : State) (h' : Heap) (b : Addr) (kA : ClassId), b = h.size → Stand p l e R s m args below meth c T' locs (cells + 1) (slots + cap) → T'.heap = h' → Ext h h' → Arv Z h' b kA (.object C) n [] .null → Ovr Z kA C → own_E p.tables e below G (T'.setTop (mkF m pc' Ls (.ref b :: st)))) : own_E p.tables e below G (T.setTop (mkF m pc Ls (.int n :: st))) := by
  subst hp
  obtain ⟨T', h', kA, X', e', E', A', O', stp⟩ := newR X hx hZ hown w1 w2 eT (g := mkF m pc Ls (.int n :: st)) rfl (hb hby hd) rfl hn hcap hbig hc hl
  exact own_go stp (k T' h' _ kA rfl X' e' E' (Arv.new A' hn) O')
theorem own_getF (X : Stand p l e R s m args below meth c T locs cells slots) (hx : p.tables.exec = Jvm.exec) (hby : c.code = B) (hZ : Z.Warmed39 s.vm) {own R0 O n d host : String} {index : Nat} (hown : s.vm.findClass own = some m.cls) (w : (Jvm.Cond.fieldLink own index R0 n d).before a0 Z = true ∨ (Jvm.Cond.fieldLinkNest own index R0 n d host).before a0 Z = true) (via : Via Z R0 O n d) (eT : T.heap = h) {a : Addr} {v : Value} (F : Fld Z h a O n d v) (hd : decode B pc = .ok (.getfield index, 3)) (hp : pc + 3 = pc')
    (k : ∀ T' : State, Stand p l e R s m args below meth c T' locs cells slots → T'.heap = h → own_E p.tables e below G (T'.setTop (mkF m pc' Ls (v :: st)))) : own_E p.tables e below G (T.setTop (mkF m pc Ls (.ref a :: st))) := by
  subst hp
  obtain ⟨T', X', e', stp⟩ := getF X hx hZ hown w via eT F (g := mkF m pc Ls (.ref a :: st)) rfl rfl (hb hby hd)
  exact own_go stp (k T' X' e')
theorem own_getS (X : Stand p l e R s m args below meth c T locs cells slots) (hx : p.tables.exec = Jvm.exec) (hby : c.code = B) (hZ : Z.Warmed39 s.vm) {own R0 O n d host : String} {index : Nat} (hown : s.vm.findClass own = some m.cls) (w : (Jvm.Cond.fieldLink own index R0 n d).before a0 Z = true ∨ (Jvm.Cond.fieldLinkNest own index R0 n d host).before a0 Z = true) (via : Via Z R0 O n d) (eT : T.heap = h) {v : Value} (F : Sta Z h O n d v) (hd : decode B pc = .ok (.getstatic index, 3)) (hp : pc + 3 = pc')
    (k : ∀ T' : State, Stand p l e R s m args below meth c T' locs cells slots → T'.heap = h → own_E p.tables e below G (T'.setTop (mkF m pc' Ls (v :: st)))) : own_E p.tables e below G (T.setTop (mkF m pc Ls (st))) := by
  subst hp
  obtain ⟨T', X', e', stp⟩ := getS2 X hx hZ hown w via eT F (g := mkF m pc Ls st) rfl (hb hby hd)
  exact own_go stp (k T' X' e')
theorem own_putF (X : Stand p l e R s m args below meth c T locs cells slots) (hx : p.tables.exec = Jvm.exec) (hby : c.code = B) (hZ : Z.Warmed39 s.vm) {own R0 O n d host C : String} {index kk : Nat} {ty : FieldType} (hown : s.vm.findClass own = some m.cls) (w : (Jvm.Cond.fieldLink own index R0 n d).before a0 Z = true ∨ (Jvm.Cond.fieldLinkNest own index R0 n d host).before a0 Z = true) (via : Via Z R0 O n d) (eT : T.heap = h) {a : Addr} {v old : Value} (F : Fld Z h a O n d old) (A : Exa Z h a C)
    (L : (Jvm.Cond.lays C O n d).before a0 Z = true ∨ ((Jvm.Cond.laysFinal C O n d).before a0 Z = true ∧ own = O ∧ meth.name = "<init>")) (wi : (Jvm.Cond.instantiable C kk).before a0 Z = true) (hty : parseFieldDescriptor d = some ty) (hn : narrow ty v = v) (hf : fits ty v = true) (hd : decode B pc = .ok (.putfield index, 3)) (hp : pc + 3 = pc')
    (k : ∀ (T' : State) (h' : Heap), Stand p l e R s m args below meth c T' (locs ++ [⟨a, Jvm.RoadKit.slotOf Z O n d⟩]) cells slots → T'.heap = h' → Wr h h' a (Jvm.RoadKit.slotOf Z O n d) v → Fld Z h' a O n d v → Exa Z h' a C → own_E p.tables e below G (T'.setTop (mkF m pc' Ls (st)))) : own_E p.tables e below G (T.setTop (mkF m pc Ls (v :: .ref a :: st))) := by
  subst hp
  obtain ⟨T', h', X', e', W', stp⟩ := putF X hx hZ hown w via eT F A L wi hty hn hf (g := mkF m pc Ls (v :: .ref a :: st)) rfl rfl (hb hby hd)
  exact own_go stp (k T' h' X' e' W' (F.same W') (A.wr W'))
theorem own_putFN (X : Stand p l e R s m args below meth c T locs cells slots) (hx : p.tables.exec = Jvm.exec) (hby : c.code = B) (hZ : Z.Warmed39 s.vm) {own R0 O n d C : String} {index kk : Nat} {ty : FieldType} (hown : s.vm.findClass own = some m.cls) (w : (Jvm.Cond.fieldLink own index R0 n d).before a0 Z = true) (via : Via Z R0 O n d) (eT : T.heap = h) {a : Addr} {v v' old : Value} (F : Fld Z h a O n d old) (A : Exa Z h a C)
    (L : (Jvm.Cond.lays C O n d).before a0 Z = true ∨ ((Jvm.Cond.laysFinal C O n d).before a0 Z = true ∧ own = O ∧ meth.name = "<init>")) (wi : (Jvm.Cond.instantiable C kk).before a0 Z = true) (hty : parseFieldDescriptor d = some ty) (hn : narrow ty v = v') (hf : fits ty v' = true) (hd : decode B pc = .ok (.putfield index, 3)) (hp : pc + 3 = pc')
    (k : ∀ (T' : State) (h' : Heap), Stand p l e R s m args below meth c T' (locs ++ [⟨a, Jvm.RoadKit.slotOf Z O n d⟩]) cells slots → T'.heap = h' → Wr h h' a (Jvm.RoadKit.slotOf Z O n d) v' → Fld Z h' a O n d v' → Exa Z h' a C → own_E p.tables e below G (T'.setTop (mkF m pc' Ls (st)))) : own_E p.tables e below G (T.setTop (mkF m pc Ls (v :: .ref a :: st))) := by
  subst hp
  obtain ⟨T', h', X', e', W', stp⟩ := putFN X hx hZ hown w via eT F A L wi hty hn hf (g := mkF m pc Ls (v :: .ref a :: st)) rfl rfl (hb hby hd)
  exact own_go stp (k T' h' X' e' W' (F.same W') (A.wr W'))
theorem own_initO (X : Stand p l e R s m args below meth c T locs cells slots) (hx : p.tables.exec = Jvm.exec) (hby : c.code = B) (hZ : Z.Warmed39 s.vm) {own : String} {idx nl W : Nat} (hml : c.maxLocals = nl) (hown : s.vm.findClass own = some m.cls) (w1 : (Jvm.Cond.methodLink own idx Lib.objectInit).before a0 Z = true) (w2 : (Jvm.Cond.instanceMethod Lib.objectInit).before a0 Z = true) (w3 : (Jvm.Cond.code Lib.objectInit ⟨#[0xb1]⟩ 1 none).before a0 Z = true) (eT : T.heap = h) (hsz : Ls.size = nl) {a : Addr} (hd : decode B pc = .ok (.invokespecial idx, 3)) (hp : pc + 3 = pc') (hf : 1 ≤ R.frames) (hW : (st.map fun v => v.category).sum ≤ W) (hl : W + 12 ≤ R.locals)
    (k : ∀ T' : State, Stand p l e R s m args below meth c T' locs cells slots → T'.heap = h → own_E p.tables e below G (T'.setTop (mkF m pc' Ls (st)))) : own_E p.tables e below G (T.setTop (mkF m pc Ls (.ref a :: st))) := by
  subst hp
  obtain ⟨T', X', e', stp⟩ := initO X hx hZ hown w1 w2 w3 eT (g := mkF m pc Ls (.ref a :: st)) rfl (by rw [hml]; exact hsz) rfl (hb hby hd) hf (W := W) (by show 2 * 0 + _ ≤ _; rw [Nat.mul_zero, Nat.zero_add]; exact hW) hl
  exact own_go stp (k T' X' e')
theorem own_ialoadV (X : Stand p l e R s m args below meth c T locs cells slots) (hx : p.tables.exec = Jvm.exec) (hby : c.code = B) (hZ : Z.Warmed39 s.vm) (eT : T.heap = h) {a : Addr} {kA : ClassId} {z j : Int32} {vs : List Value} {dv v : Value} (A : Arv Z h a kA .int z vs dv) (hj : ¬ j < 0 ∧ j < z) (hv : vs.getD j.toNatClampNeg dv = v) (hd : decode B pc = .ok (.iaload, 1)) (hp : pc + 1 = pc')
    (k : own_E p.tables e below G (T.setTop (mkF m pc' Ls (v :: st)))) : own_E p.tables e below G (T.setTop (mkF m pc Ls (.int j :: .ref a :: st))) := by
  subst hp
  obtain ⟨cl, Ar, -, S, -, H, -⟩ := A
  exact own_go (fun t q => X.iaload hx (by rw [eT]; exact Ar.1) (State.isArrayOf_alike hZ.alike Ar.2.1) Ar.2.2 (inb_of S hj) (H.at (inb_of S hj) hv) (g := mkF m pc Ls (.int j :: .ref a :: st)) rfl rfl (hb hby hd) t q) k
theorem own_laloadV (X : Stand p l e R s m args below meth c T locs cells slots) (hx : p.tables.exec = Jvm.exec) (hby : c.code = B) (hZ : Z.Warmed39 s.vm) (eT : T.heap = h) {a : Addr} {kA : ClassId} {z j : Int32} {vs : List Value} {dv v : Value} (A : Arv Z h a kA .long z vs dv) (hj : ¬ j < 0 ∧ j < z) (hv : vs.getD j.toNatClampNeg dv = v) (hd : decode B pc = .ok (.laload, 1)) (hp : pc + 1 = pc')
    (k : own_E p.tables e below G (T.setTop (mkF m pc' Ls (v :: st)))) : own_E p.tables e below G (T.setTop (mkF m pc Ls (.int j :: .ref a :: st))) := by
  subst hp
  obtain ⟨cl, Ar, -, S, -, H, -⟩ := A
  exact own_go (fun t q => X.laload hx (by rw [eT]; exact Ar.1) (State.isArrayOf_alike hZ.alike Ar.2.1) Ar.2.2 (inb_of S hj) (H.at (inb_of S hj) hv) (g := mkF m pc Ls (.int j :: .ref a :: st)) rfl rfl (hb hby hd) t q) k
theorem own_caloadV (X : Stand p l e R s m args below meth c T locs cells slots) (hx : p.tables.exec = Jvm.exec) (hby : c.code = B) (hZ : Z.Warmed39 s.vm) (eT : T.heap = h) {a : Addr} {kA : ClassId} {z j : Int32} {vs : List Value} {dv v : Value} (A : Arv Z h a kA .char z vs dv) (hj : ¬ j < 0 ∧ j < z) (hv : vs.getD j.toNatClampNeg dv = v) (hd : decode B pc = .ok (.caload, 1)) (hp : pc + 1 = pc')
    (k : own_E p.tables e below G (T.setTop (mkF m pc' Ls (v :: st)))) : own_E p.tables e below G (T.setTop (mkF m pc Ls (.int j :: .ref a :: st))) := by
  subst hp
  obtain ⟨cl, Ar, -, S, -, H, -⟩ := A
  exact own_go (fun t q => X.caload hx (by rw [eT]; exact Ar.1) (State.isArrayOf_alike hZ.alike Ar.2.1) Ar.2.2 (inb_of S hj) (H.at (inb_of S hj) hv) (g := mkF m pc Ls (.int j :: .ref a :: st)) rfl rfl (hb hby hd) t q) k
theorem own_baloadV (X : Stand p l e R s m args below meth c T locs cells slots) (hx : p.tables.exec = Jvm.exec) (hby : c.code = B) (hZ : Z.Warmed39 s.vm) (eT : T.heap = h) {a : Addr} {kA : ClassId} {z j : Int32} {vs : List Value} {dv v : Value} (A : Arv Z h a kA .byte z vs dv) (hj : ¬ j < 0 ∧ j < z) (hv : vs.getD j.toNatClampNeg dv = v) (hd : decode B pc = .ok (.baload, 1)) (hp : pc + 1 = pc')
    (k : own_E p.tables e below G (T.setTop (mkF m pc' Ls (v :: st)))) : own_E p.tables e below G (T.setTop (mkF m pc Ls (.int j :: .ref a :: st))) := by
  subst hp
  obtain ⟨cl, Ar, -, S, -, H, -⟩ := A
  exact own_go (fun t q => X.baloadBytes hx (by rw [eT]; exact Ar.1) (State.isArrayOf_alike hZ.alike Ar.2.1) Ar.2.2 (inb_of S hj) (H.at (inb_of S hj) hv) (g := mkF m pc Ls (.int j :: .ref a :: st)) rfl rfl (hb hby hd) t q) k
theorem own_daloadV (X : Stand p l e R s m args below meth c T locs cells slots) (hx : p.tables.exec = Jvm.exec) (hby : c.code = B) (hZ : Z.Warmed39 s.vm) (eT : T.heap = h) {a : Addr} {kA : ClassId} {z j : Int32} {vs : List Value} {dv v : Value} (A : Arv Z h a kA .double z vs dv) (hj : ¬ j < 0 ∧ j < z) (hv : vs.getD j.toNatClampNeg dv = v) (hd : decode B pc = .ok (.daload, 1)) (hp : pc + 1 = pc')
    (k : own_E p.tables e below G (T.setTop (mkF m pc' Ls (v :: st)))) : own_E p.tables e below G (T.setTop (mkF m pc Ls (.int j :: .ref a :: st))) := by
  subst hp
  obtain ⟨cl, Ar, -, S, -, H, -⟩ := A
  exact own_go (fun t q => X.daload hx (by rw [eT]; exact Ar.1) (State.isArrayOf_alike hZ.alike Ar.2.1) Ar.2.2 (inb_of S hj) (H.at (inb_of S hj) hv) (g := mkF m pc Ls (.int j :: .ref a :: st)) rfl rfl (hb hby hd) t q) k
theorem own_aaloadV (X : Stand p l e R s m args below meth c T locs cells slots) (hx : p.tables.exec = Jvm.exec) (hby : c.code = B) (hZ : Z.Warmed39 s.vm) (eT : T.heap = h) {a : Addr} {kA : ClassId} {ty : FieldType} {z j : Int32} {vs : List Value} {dv v : Value} (A : Arv Z h a kA ty z vs dv) (hty : ty.isReference = true) (hj : ¬ j < 0 ∧ j < z) (hv : vs.getD j.toNatClampNeg dv = v) (hd : decode B pc = .ok (.aaload, 1)) (hp : pc + 1 = pc')
    (k : own_E p.tables e below G (T.setTop (mkF m pc' Ls (v :: st)))) : own_E p.tables e below G (T.setTop (mkF m pc Ls (.int j :: .ref a :: st))) := by
  subst hp
  obtain ⟨cl, Ar, -, S, -, H, -⟩ := A
  exact own_go (fun t q => X.aaload hx (by rw [eT]; exact Ar.1) (State.isArrayOf_alike hZ.alike Ar.2.1) hty Ar.2.2 (inb_of S hj) (H.at (inb_of S hj) hv) (g := mkF m pc Ls (.int j :: .ref a :: st)) rfl rfl (hb hby hd) t q) k
theorem own_alenV (X : Stand p l e R s m args below meth c T locs cells slots) (hx : p.tables.exec = Jvm.exec) (hby : c.code = B) (hZ : Z.Warmed39 s.vm) (eT : T.heap = h) {a : Addr} {kA : ClassId} {ty : FieldType} {z : Int32} {vs : List Value} {dv : Value} (A : Arv Z h a kA ty z vs dv) (hd : decode B pc = .ok (.arraylength, 1)) (hp : pc + 1 = pc')
    (k : own_E p.tables e below G (T.setTop (mkF m pc' Ls (.int z :: st)))) : own_E p.tables e below G (T.setTop (mkF m pc Ls (.ref a :: st))) := by
  subst hp
  obtain ⟨cl, Ar, -, S, N, -, -⟩ := A
  refine own_go (fun t q => X.arraylength hx (by rw [eT]; exact Ar.1) (State.isArrayOf_alike hZ.alike Ar.2.1) (g := mkF m pc Ls (.ref a :: st)) rfl rfl (hb hby hd) t ?_) k
  rw [len_of S N]; exact q
theorem own_stI (X : Stand p l e R s m args below meth c T locs cells slots) (hx : p.tables.exec = Jvm.exec) (hby : c.code = B) (hZ : Z.Warmed39 s.vm) (eT : T.heap = h) {a : Addr} {kA : ClassId} {z j : Int32} {vs : List Value} {dv : Value} {x : Int32} (A : Arv Z h a kA .int z vs dv) (hj : ¬ j < 0 ∧ j < z) (i : Nat) (hi : j.toNatClampNeg = i) (hlen : i < vs.length) (hd : decode B pc = .ok (.iastore, 1)) (hp : pc + 1 = pc')
    (k : ∀ (T' : State) (h' : Heap), Stand p l e R s m args below meth c T' (locs ++ [⟨a, j.toNatClampNeg⟩]) cells slots → T'.heap = h' → Wr h h' a j.toNatClampNeg (.int x) → Arv Z h' a kA .int z (vs.set i (.int x)) dv → own_E p.tables e below G (T'.setTop (mkF m pc' Ls (st)))) : own_E p.tables e below G (T.setTop (mkF m pc Ls (.int x :: .int j :: .ref a :: st))) := by
  subst hp
  obtain ⟨cl, Ar, q, S, N, H, F⟩ := A
  obtain ⟨T', h', X', e', W', stp⟩ := stI X hx hZ eT Ar (j := j) (inb_of S hj) (g := mkF m pc Ls (.int x :: .int j :: .ref a :: st)) rfl rfl (hb hby hd)
  exact own_go stp (k T' h' X' e' W' (Arv.set Ar q S N H F rfl W' i hi hlen))
theorem own_stJ (X : Stand p l e R s m args below meth c T locs cells slots) (hx : p.tables.exec = Jvm.exec) (hby : c.code = B) (hZ : Z.Warmed39 s.vm) (eT : T.heap = h) {a : Addr} {kA : ClassId} {z j : Int32} {vs : List Value} {dv : Value} {x : Int64} (A : Arv Z h a kA .long z vs dv) (hj : ¬ j < 0 ∧ j < z) (i : Nat) (hi : j.toNatClampNeg = i) (hlen : i < vs.length) (hd : decode B pc = .ok (.lastore, 1)) (hp : pc + 1 = pc')
    (k : ∀ (T' : State) (h' : Heap), Stand p l e R s m args below meth c T' (locs ++ [⟨a, j.toNatClampNeg⟩]) cells slots → T'.heap = h' → Wr h h' a j.toNatClampNeg (.long x) → Arv Z h' a kA .long z (vs.set i (.long x)) dv → own_E p.tables e below G (T'.setTop (mkF m pc' Ls (st)))) : own_E p.tables e below G (T.setTop (mkF m pc Ls (.long x :: .int j :: .ref a :: st))) := by
  subst hp
  obtain ⟨cl, Ar, q, S, N, H, F⟩ := A
  obtain ⟨T', h', X', e', W', stp⟩ := stJ X hx hZ eT Ar (j := j) (inb_of S hj) (g := mkF m pc Ls (.long x :: .int j :: .ref a :: st)) rfl rfl (hb hby hd)
  exact own_go stp (k T' h' X' e' W' (Arv.set Ar q S N H F rfl W' i hi hlen))
theorem own_stC (X : Stand p l e R s m args below meth c T locs cells slots) (hx : p.tables.exec = Jvm.exec) (hby : c.code = B) (hZ : Z.Warmed39 s.vm) (eT : T.heap = h) {a : Addr} {kA : ClassId} {z j : Int32} {vs : List Value} {dv : Value} {x : Int32} (A : Arv Z h a kA .char z vs dv) (hj : ¬ j < 0 ∧ j < z) (i : Nat) (hi : j.toNatClampNeg = i) (hlen : i < vs.length) (hd : decode B pc = .ok (.castore, 1)) (hp : pc + 1 = pc')
    (k : ∀ (T' : State) (h' : Heap), Stand p l e R s m args below meth c T' (locs ++ [⟨a, j.toNatClampNeg⟩]) cells slots → T'.heap = h' → Wr h h' a j.toNatClampNeg (.int (nar .char x)) → Arv Z h' a kA .char z (vs.set i (.int (nar .char x))) dv → own_E p.tables e below G (T'.setTop (mkF m pc' Ls (st)))) : own_E p.tables e below G (T.setTop (mkF m pc Ls (.int x :: .int j :: .ref a :: st))) := by
  subst hp
  obtain ⟨cl, Ar, q, S, N, H, F⟩ := A
  obtain ⟨T', h', X', e', W', stp⟩ := stC X hx hZ eT Ar (j := j) (inb_of S hj) (g := mkF m pc Ls (.int x :: .int j :: .ref a :: st)) rfl rfl (hb hby hd)
  exact own_go stp (k T' h' X' e' W' (Arv.set Ar q S N H F (fits_nar_char _) W' i hi hlen))
theorem own_stB (X : Stand p l e R s m args below meth c T locs cells slots) (hx : p.tables.exec = Jvm.exec) (hby : c.code = B) (hZ : Z.Warmed39 s.vm) (eT : T.heap = h) {a : Addr} {kA : ClassId} {z j : Int32} {vs : List Value} {dv : Value} {x : Int32} (A : Arv Z h a kA .byte z vs dv) (hj : ¬ j < 0 ∧ j < z) (i : Nat) (hi : j.toNatClampNeg = i) (hlen : i < vs.length) (hd : decode B pc = .ok (.bastore, 1)) (hp : pc + 1 = pc')
    (k : ∀ (T' : State) (h' : Heap), Stand p l e R s m args below meth c T' (locs ++ [⟨a, j.toNatClampNeg⟩]) cells slots → T'.heap = h' → Wr h h' a j.toNatClampNeg (.int (nar .byte x)) → Arv Z h' a kA .byte z (vs.set i (.int (nar .byte x))) dv → own_E p.tables e below G (T'.setTop (mkF m pc' Ls (st)))) : own_E p.tables e below G (T.setTop (mkF m pc Ls (.int x :: .int j :: .ref a :: st))) := by
  subst hp
  obtain ⟨cl, Ar, q, S, N, H, F⟩ := A
  obtain ⟨T', h', X', e', W', stp⟩ := stB X hx hZ eT Ar (j := j) (inb_of S hj) (g := mkF m pc Ls (.int x :: .int j :: .ref a :: st)) rfl rfl (hb hby hd)
  exact own_go stp (k T' h' X' e' W' (Arv.set Ar q S N H F (fits_nar_byte _) W' i hi hlen))
theorem own_stZ (X : Stand p l e R s m args below meth c T locs cells slots) (hx : p.tables.exec = Jvm.exec) (hby : c.code = B) (hZ : Z.Warmed39 s.vm) (eT : T.heap = h) {a : Addr} {kA : ClassId} {z j : Int32} {vs : List Value} {dv : Value} {x : Int32} (A : Arv Z h a kA .boolean z vs dv) (hj : ¬ j < 0 ∧ j < z) (i : Nat) (hi : j.toNatClampNeg = i) (hlen : i < vs.length) (hd : decode B pc = .ok (.bastore, 1)) (hp : pc + 1 = pc')
    (k : ∀ (T' : State) (h' : Heap), Stand p l e R s m args below meth c T' (locs ++ [⟨a, j.toNatClampNeg⟩]) cells slots → T'.heap = h' → Wr h h' a j.toNatClampNeg (.int (nar .boolean x)) → Arv Z h' a kA .boolean z (vs.set i (.int (nar .boolean x))) dv → own_E p.tables e below G (T'.setTop (mkF m pc' Ls (st)))) : own_E p.tables e below G (T.setTop (mkF m pc Ls (.int x :: .int j :: .ref a :: st))) := by
  subst hp
  obtain ⟨cl, Ar, q, S, N, H, F⟩ := A
  obtain ⟨T', h', X', e', W', stp⟩ := stZ X hx hZ eT Ar (j := j) (inb_of S hj) (g := mkF m pc Ls (.int x :: .int j :: .ref a :: st)) rfl rfl (hb hby hd)
  exact own_go stp (k T' h' X' e' W' (Arv.set Ar q S N H F (fits_nar_bool _) W' i hi hlen))
theorem own_stD (X : Stand p l e R s m args below meth c T locs cells slots) (hx : p.tables.exec = Jvm.exec) (hby : c.code = B) (hZ : Z.Warmed39 s.vm) (eT : T.heap = h) {a : Addr} {kA : ClassId} {z j : Int32} {vs : List Value} {dv : Value} {x : UInt64} (A : Arv Z h a kA .double z vs dv) (hj : ¬ j < 0 ∧ j < z) (i : Nat) (hi : j.toNatClampNeg = i) (hlen : i < vs.length) (hd : decode B pc = .ok (.dastore, 1)) (hp : pc + 1 = pc')
    (k : ∀ (T' : State) (h' : Heap), Stand p l e R s m args below meth c T' (locs ++ [⟨a, j.toNatClampNeg⟩]) cells slots → T'.heap = h' → Wr h h' a j.toNatClampNeg (.double x) → Arv Z h' a kA .double z (vs.set i (.double x)) dv → own_E p.tables e below G (T'.setTop (mkF m pc' Ls (st)))) : own_E p.tables e below G (T.setTop (mkF m pc Ls (.double x :: .int j :: .ref a :: st))) := by
  subst hp
  obtain ⟨cl, Ar, q, S, N, H, F⟩ := A
  obtain ⟨T', h', X', e', W', stp⟩ := stD X hx hZ eT Ar (j := j) (inb_of S hj) (g := mkF m pc Ls (.double x :: .int j :: .ref a :: st)) rfl rfl (hb hby hd)
  exact own_go stp (k T' h' X' e' W' (Arv.set Ar q S N H F rfl W' i hi hlen))
theorem own_stR (X : Stand p l e R s m args below meth c T locs cells slots) (hx : p.tables.exec = Jvm.exec) (hby : c.code = B) (hZ : Z.Warmed39 s.vm) (eT : T.heap = h) {a : Addr} {kA : ClassId} {ty : FieldType} {z j : Int32} {vs : List Value} {dv v : Value} (A : Arv Z h a kA ty z vs dv) (hty : ty.isReference = true) (hv : v.isRef = true) (F : Sto Z h a v) (hj : ¬ j < 0 ∧ j < z) (i : Nat) (hi : j.toNatClampNeg = i) (hlen : i < vs.length) (hd : decode B pc = .ok (.aastore, 1)) (hp : pc + 1 = pc')
    (k : ∀ (T' : State) (h' : Heap), Stand p l e R s m args below meth c T' (locs ++ [⟨a, j.toNatClampNeg⟩]) cells slots → T'.heap = h' → Wr h h' a j.toNatClampNeg v → Arv Z h' a kA ty z (vs.set i v) dv → own_E p.tables e below G (T'.setTop (mkF m pc' Ls (st)))) : own_E p.tables e below G (T.setTop (mkF m pc Ls (v :: .int j :: .ref a :: st))) := by
  subst hp
  obtain ⟨cl, Ar, q, S, N, H, F'⟩ := A
  obtain ⟨T', h', X', e', W', stp⟩ := stR X hx hZ eT Ar (j := j) (inb_of S hj) hty F (g := mkF m pc Ls (v :: .int j :: .ref a :: st)) rfl rfl (hb hby hd)
  exact own_go stp (k T' h' X' e' W' (Arv.set Ar q S N H F' (by cases ty <;> first | (cases hty; done) | (rcases ref_cases hv with rfl | ⟨_, rfl⟩ <;> rfl)) W' i hi hlen))
theorem own_sto {a y : Addr} {kA : ClassId} {ty : FieldType} {z : Int32} {vs : List Value} {dv : Value} {C : String} (A : Arv Z h a kA ty z vs dv) (O : Ovr Z kA C) (I : Ins Z h y C true) : Sto Z h a (.ref y) := by
  obtain ⟨cl, Ar, q, -⟩ := A; exact Sto.ofV Ar q O I
theorem own_ldcI (X : Stand p l e R s m args below meth c T locs cells slots) (hx : p.tables.exec = Jvm.exec) (hby : c.code = B) (hZ : Z.Warmed39 s.vm) {own : String} {index : Nat} {v : Int32} (hown : s.vm.findClass own = some m.cls) (w : (Jvm.Cond.constant own index v).before a0 Z = true) (hd : decode B pc = .ok (.ldc index, 2)) (hp : pc + 2 = pc')
    (k : own_E p.tables e below G (T.setTop (mkF m pc' Ls (.int v :: st)))) : own_E p.tables e below G (T.setTop (mkF m pc Ls (st))) := by
  subst hp; exact own_go (fun t q => X.ldcInt hx hown (mvT hZ w) (g := mkF m pc Ls st) rfl (hb hby hd) t q) k
theorem own_ldcJ (X : Stand p l e R s m args below meth c T locs cells slots) (hx : p.tables.exec = Jvm.exec) (hby : c.code = B) (hZ : Z.Warmed39 s.vm) {own : String} {index : Nat} {v : Int64} (hown : s.vm.findClass own = some m.cls) (w : (Jvm.Cond.constantLong own index v).before a0 Z = true) (hd : decode B pc = .ok (.ldc2_w index, 3)) (hp : pc + 3 = pc')
    (k : own_E p.tables e below G (T.setTop (mkF m pc' Ls (.long v :: st)))) : own_E p.tables e below G (T.setTop (mkF m pc Ls (st))) := by
  subst hp; exact own_go (fun t q => X.ldc2Long hx hown (mvT hZ w) (g := mkF m pc Ls st) rfl (hb hby hd) t q) k
theorem own_ldcD (X : Stand p l e R s m args below meth c T locs cells slots) (hx : p.tables.exec = Jvm.exec) (hby : c.code = B) (hZ : Z.Warmed39 s.vm) {own : String} {index : Nat} {v : UInt64} (hown : s.vm.findClass own = some m.cls) (w : (Jvm.Cond.constantDouble own index v).before a0 Z = true) (hd : decode B pc = .ok (.ldc2_w index, 3)) (hp : pc + 3 = pc')
    (k : own_E p.tables e below G (T.setTop (mkF m pc' Ls (.double v :: st)))) : own_E p.tables e below G (T.setTop (mkF m pc Ls (st))) := by
  subst hp; exact own_go (fun t q => X.ldc2DoubleC hx hown (mvT hZ w) (g := mkF m pc Ls st) rfl (hb hby hd) t q) k
theorem own_cast (X : Stand p l e R s m args below meth c T locs cells slots) (hx : p.tables.exec = Jvm.exec) (hby : c.code = B) (hZ : Z.Warmed39 s.vm) {own K : String} {index : Nat} (hown : s.vm.findClass own = some m.cls) (w : (Jvm.Cond.classLink own index K).before a0 Z = true) (eT : T.heap = h) {a : Addr} (F : Ins Z h a K true) (hd : decode B pc = .ok (.checkcast index, 3)) (hp : pc + 3 = pc')
    (k : ∀ T' : State, Stand p l e R s m args below meth c T' locs cells slots → T'.heap = h → own_E p.tables e below G (T'.setTop (mkF m pc' Ls (.ref a :: st)))) : own_E p.tables e below G (T.setTop (mkF m pc Ls (.ref a :: st))) := by
  subst hp
  obtain ⟨T', X', e', stp⟩ := castY X hx hZ hown w eT F (g := mkF m pc Ls (.ref a :: st)) rfl rfl (hb hby hd)
  exact own_go stp (k T' X' e')
theorem own_instY (X : Stand p l e R s m args below meth c T locs cells slots) (hx : p.tables.exec = Jvm.exec) (hby : c.code = B) (hZ : Z.Warmed39 s.vm) {own K : String} {index : Nat} (hown : s.vm.findClass own = some m.cls) (w : (Jvm.Cond.classLink own index K).before a0 Z = true) (eT : T.heap = h) {a : Addr} (F : Ins Z h a K true) (hd : decode B pc = .ok (.instanceof index, 3)) (hp : pc + 3 = pc')
    (k : ∀ T' : State, Stand p l e R s m args below meth c T' locs cells slots → T'.heap = h → own_E p.tables e below G (T'.setTop (mkF m pc' Ls (.int 1 :: st)))) : own_E p.tables e below G (T.setTop (mkF m pc Ls (.ref a :: st))) := by
  subst hp
  obtain ⟨T', X', e', stp⟩ := instY X hx hZ hown w eT F (g := mkF m pc Ls (.ref a :: st)) rfl rfl (hb hby hd)
  exact own_go stp (k T' X' e')
theorem own_dloadN (X : Stand p l e R s m args below meth c T locs cells slots) (hx : p.tables.exec = Jvm.exec) (hby : c.code = B) {k : Fin 4} {v : UInt64} (hd : decode B pc = .ok (.dload_n k, 1)) (hp : pc + 1 = pc') (hl : Ls[k.val]? = some (.val (.double v)))
    (k : own_E p.tables e below G (T.setTop (mkF m pc' Ls (.double v :: st)))) : own_E p.tables e below G (T.setTop (mkF m pc Ls (st))) := by
  subst hp; exact own_go (fun t q => XS.dloadN X.here hx rfl (hb hby hd) hl q) k
theorem own_dload (X : Stand p l e R s m args below meth c T locs cells slots) (hx : p.tables.exec = Jvm.exec) (hby : c.code = B) {k : Nat} {v : UInt64} (hd : decode B pc = .ok (.dload k, 2)) (hp : pc + 2 = pc') (hl : Ls[k]? = some (.val (.double v)))
    (k : own_E p.tables e below G (T.setTop (mkF m pc' Ls (.double v :: st)))) : own_E p.tables e below G (T.setTop (mkF m pc Ls (st))) := by
  subst hp; exact own_go (fun t q => XS.dload X.here hx rfl (hb hby hd) hl q) k
theorem own_dstoreN (X : Stand p l e R s m args below meth c T locs cells slots) (hx : p.tables.exec = Jvm.exec) (hby : c.code = B) {k : Fin 4} {v : UInt64} (hd : decode B pc = .ok (.dstore_n k, 1)) (hp : pc + 1 = pc') (hl : storeLocals Ls k.val (.double v) = some Ls')
    (k : own_E p.tables e below G (T.setTop (mkF m pc' Ls' (st)))) : own_E p.tables e below G (T.setTop (mkF m pc Ls (.double v :: st))) := by
  subst hp; exact own_go (fun t q => XS.dstoreN X.here hx rfl (hb hby hd) rfl hl q) k
theorem own_dstore (X : Stand p l e R s m args below meth c T locs cells slots) (hx : p.tables.exec = Jvm.exec) (hby : c.code = B) {k : Nat} {v : UInt64} (hd : decode B pc = .ok (.dstore k, 2)) (hp : pc + 2 = pc') (hl : storeLocals Ls k (.double v) = some Ls')
    (k : own_E p.tables e below G (T.setTop (mkF m pc' Ls' (st)))) : own_E p.tables e below G (T.setTop (mkF m pc Ls (.double v :: st))) := by
  subst hp; exact own_go (fun t q => XS.dstore X.here hx rfl (hb hby hd) rfl hl q) k
theorem own_dconst0 (X : Stand p l e R s m args below meth c T locs cells slots) (hx : p.tables.exec = Jvm.exec) (hby : c.code = B) {v : UInt64} (hd : decode B pc = .ok (.dconst 0, 1)) (hp : pc + 1 = pc') (hv : FP.dconst0 = v)
    (k : own_E p.tables e below G (T.setTop (mkF m pc' Ls (.double v :: st)))) : own_E p.tables e below G (T.setTop (mkF m pc Ls (st))) := by
  subst hp; exact own_go (fun t q => XS.dconst0 X.here hx rfl (hb hby hd) hv q) k
theorem own_dconst1 (X : Stand p l e R s m args below meth c T locs cells slots) (hx : p.tables.exec = Jvm.exec) (hby : c.code = B) {v : UInt64} (hd : decode B pc = .ok (.dconst 1, 1)) (hp : pc + 1 = pc') (hv : FP.dconst1 = v)
    (k : own_E p.tables e below G (T.setTop (mkF m pc' Ls (.double v :: st)))) : own_E p.tables e below G (T.setTop (mkF m pc Ls (st))) := by
  subst hp; exact own_go (fun t q => XS.dconst1 X.here hx rfl (hb hby hd) hv q) k
theorem own_i2d (X : Stand p l e R s m args below meth c T locs cells slots) (hx : p.tables.exec = Jvm.exec) (hby : c.code = B) {x : Int32} {v : UInt64} (hd : decode B pc = .ok (.i2d, 1)) (hp : pc + 1 = pc') (hv : FP.i2d x = v)
    (k : own_E p.tables e below G (T.setTop (mkF m pc' Ls (.double v :: st)))) : own_E p.tables e below G (T.setTop (mkF m pc Ls (.int x :: st))) := by
  subst hp; exact own_go (fun t q => XS.i2dS X.here hx rfl (hb hby hd) rfl hv q) k
theorem own_l2d (X : Stand p l e R s m args below meth c T locs cells slots) (hx : p.tables.exec = Jvm.exec) (hby : c.code = B) {x : Int64} {v : UInt64} (hd : decode B pc = .ok (.l2d, 1)) (hp : pc + 1 = pc') (hv : FP.l2d x = v)
    (k : own_E p.tables e below G (T.setTop (mkF m pc' Ls (.double v :: st)))) : own_E p.tables e below G (T.setTop (mkF m pc Ls (.long x :: st))) := by
  subst hp; exact own_go (fun t q => XS.l2dS X.here hx rfl (hb hby hd) rfl hv q) k
theorem own_dadd (X : Stand p l e R s m args below meth c T locs cells slots) (hx : p.tables.exec = Jvm.exec) (hby : c.code = B) {x y v : UInt64} (hd : decode B pc = .ok (.dadd, 1)) (hp : pc + 1 = pc') (hn : Jvm.Free.Fl.NoNaN64 (FP.dadd x y)) (hv : FP.dadd x y = v)
    (k : own_E p.tables e below G (T.setTop (mkF m pc' Ls (.double v :: st)))) : own_E p.tables e below G (T.setTop (mkF m pc Ls (.double y :: .double x :: st))) := by
  subst hp; exact own_go (fun t q => XS.daddS X.here hx rfl (hb hby hd) rfl hn hv q) k
theorem own_dsub (X : Stand p l e R s m args below meth c T locs cells slots) (hx : p.tables.exec = Jvm.exec) (hby : c.code = B) {x y v : UInt64} (hd : decode B pc = .ok (.dsub, 1)) (hp : pc + 1 = pc') (hn : Jvm.Free.Fl.NoNaN64 (FP.dsub x y)) (hv : FP.dsub x y = v)
    (k : own_E p.tables e below G (T.setTop (mkF m pc' Ls (.double v :: st)))) : own_E p.tables e below G (T.setTop (mkF m pc Ls (.double y :: .double x :: st))) := by
  subst hp; exact own_go (fun t q => XS.dsubS X.here hx rfl (hb hby hd) rfl hn hv q) k
theorem own_dmul (X : Stand p l e R s m args below meth c T locs cells slots) (hx : p.tables.exec = Jvm.exec) (hby : c.code = B) {x y v : UInt64} (hd : decode B pc = .ok (.dmul, 1)) (hp : pc + 1 = pc') (hn : Jvm.Free.Fl.NoNaN64 (FP.dmul x y)) (hv : FP.dmul x y = v)
    (k : own_E p.tables e below G (T.setTop (mkF m pc' Ls (.double v :: st)))) : own_E p.tables e below G (T.setTop (mkF m pc Ls (.double y :: .double x :: st))) := by
  subst hp; exact own_go (fun t q => XS.dmulS X.here hx rfl (hb hby hd) rfl hn hv q) k
theorem own_ddiv (X : Stand p l e R s m args below meth c T locs cells slots) (hx : p.tables.exec = Jvm.exec) (hby : c.code = B) {x y v : UInt64} (hd : decode B pc = .ok (.ddiv, 1)) (hp : pc + 1 = pc') (hn : Jvm.Free.Fl.NoNaN64 (FP.ddiv x y)) (hv : FP.ddiv x y = v)
    (k : own_E p.tables e below G (T.setTop (mkF m pc' Ls (.double v :: st)))) : own_E p.tables e below G (T.setTop (mkF m pc Ls (.double y :: .double x :: st))) := by
  subst hp; exact own_go (fun t q => XS.ddivS X.here hx rfl (hb hby hd) rfl hn hv q) k
theorem own_dcmp (X : Stand p l e R s m args below meth c T locs cells slots) (hx : p.tables.exec = Jvm.exec) (hby : c.code = B) {o : CmpOp} {x y : UInt64} {v : Int32} (hd : decode B pc = .ok (.dcmp o, 1)) (hp : pc + 1 = pc') (hv : cmpValue (FP.dcmp x y) o = v)
    (k : own_E p.tables e below G (T.setTop (mkF m pc' Ls (.int v :: st)))) : own_E p.tables e below G (T.setTop (mkF m pc Ls (.double y :: .double x :: st))) := by
  subst hp; exact own_go (fun t q => XS.dcmpS X.here hx rfl (hb hby hd) rfl hv q) k
theorem own_join {tb : Tables} {α : Type} {F : α → State} {P : α → Prop} {A : State} (rest : ∀ z, P z → own_E tb e below G (F z)) (br : (∀ z, P z → own_E tb e below G (F z)) → own_E tb e below G A) : own_E tb e below G A := br rest
/-- an array of arrays, each place filled -/
def own_Grid (Z : State) (h : Heap) (a : Addr) (n : Int32) : Prop := ∃ (kA : ClassId) (ty : FieldType) (xs : List Addr), Arv Z h a kA ty n (xs.map Value.ref) .null ∧ ty.isReference = true ∧ xs.length = n.toNatClampNeg
theorem own_Grid.ext {a : Addr} {n : Int32} (G : own_Grid Z h a n) (E : Ext h h') : own_Grid Z h' a n := by
  obtain ⟨kA, ty, xs, A, r⟩ := G; exact ⟨kA, ty, xs, A.ext E, r⟩
theorem own_grid (X : Stand p l e R s m args below meth c T locs cells slots) (hx : p.tables.exec = Jvm.exec) (hby : c.code = B) (hZ : Z.Warmed39 s.vm) {own C ad : String} {ty : FieldType} {index : Nat} (hown : s.vm.findClass own = some m.cls) (hC : (FieldType.array ty).toString = C) (had : "[" ++ C = ad)
    (w1 : (Jvm.Cond.classLink own index ad).before a0 Z = true) (w2 : (Jvm.Cond.arrayOver (.array ty)).before a0 Z = true) (w3 : (Jvm.Cond.arrayClass ty).before a0 Z = true) (eT : T.heap = h) (hd : decode B pc = .ok (.multianewarray index 2, 4)) (hp : pc + 4 = pc') {n : Int32}
    (hn : ¬ n < 0) {CC SS : Nat} (hN : n.toNatClampNeg ≤ SS) (hdf : fits ty (defaultValue ty) = true) (hdd : (defaultValue ty).isDefault = true) (hb1 : SS ≤ 1000) (hCC : 1 + SS ≤ CC) (hc : cells + CC ≤ R.cells) (hl : slots + SS ≤ R.slots)
    (k : ∀ (T' : State) (h' : Heap) (b : Addr), b = h.size → Stand p l e R s m args below meth c T' locs (cells + CC) (slots + SS) → T'.heap = h' → Ext h h' → own_Grid Z h' b n → own_E p.tables e below G (T'.setTop (mkF m pc' Ls (.ref b :: st)))) : own_E p.tables e below G (T.setTop (mkF m pc Ls (.int 0 :: .int n :: st))) := by
  subst hp
  obtain ⟨T', h', cA, comp, X', e', E', V', -, -, -, stp⟩ := gridM X hx hZ hown hC had w1 w2 w3 eT (g := mkF m pc Ls (.int 0 :: .int n :: st)) rfl (hb hby hd) rfl hn (by decide) rfl rfl (cap := 0) (by decide) (by decide) (by omega) hdf hdd (by omega) (by omega)
  exact own_go stp (k T' h' _ rfl (X'.mono (by omega) (by omega)) e' E' ⟨cA, _, _, V', rfl, by simp⟩)
theorem own_aaloadG (X : Stand p l e R s m args below meth c T locs cells slots) (hx : p.tables.exec = Jvm.exec) (hby : c.code = B) (hZ : Z.Warmed39 s.vm) (eT : T.heap = h) {a : Addr} {n j : Int32} (A : own_Grid Z h a n) (hj : ¬ j < 0 ∧ j < n) (hd : decode B pc = .ok (.aaload, 1)) (hp : pc + 1 = pc')
    (k : ∀ x : Addr, own_E p.tables e below G (T.setTop (mkF m pc' Ls (.ref x :: st)))) : own_E p.tables e below G (T.setTop (mkF m pc Ls (.int j :: .ref a :: st))) := by
  obtain ⟨kA, ty, xs, A, ht, hlen⟩ := A
  have hlt : j.toNatClampNeg < xs.length := by
    have h1 := hj.1; have h2 := hj.2
    simp only [Int32.lt_iff_toInt_lt, Int32.reduceToInt] at h1 h2
    rw [hlen]; simp only [Int32.toNatClampNeg]; omega
  exact own_aaloadV X hx hby hZ eT A ht hj (v := .ref xs[j.toNatClampNeg]) (by simp [List.getD_eq_getElem?_getD, hlt]) hd hp (k _)
end OwnHeap

abbrev own_ST : String := "java/lang/String"
/-- a String of these chars, each 0 to 255 -/
def own_Str (Z : State) (h : Heap) (a : Addr) (cs : List Int32) : Prop := Exa Z h a "java/lang/String" ∧ Fld Z h a "java/lang/String" "coder" "B" (.int (0 : Int32)) ∧ (∀ c ∈ cs, ¬ c < 0 ∧ ¬ (255 : Int32) < c) ∧ ∃ (t : Addr) (kb : ClassId), Fld Z h a "java/lang/String" "value" "[B" (.ref t) ∧ Arv Z h t kb .byte (Int32.ofNat cs.length) ((cs.map (fun c => c.toInt8.toInt32)).map Value.int) (.int (0 : Int32))
theorem own_Str.ext {Z : State} {h h' : Heap} {a : Addr} {cs : List Int32} (S : own_Str Z h a cs) (E : Ext h h') : own_Str Z h' a cs := by
  obtain ⟨A, C, hp, t, kb, V, K⟩ := S; exact ⟨A.ext E, C.ext E, hp, t, kb, V.ext E, K.ext E⟩
theorem own_Str.exa {Z : State} {h : Heap} {a : Addr} {cs : List Int32} (S : own_Str Z h a cs) : Exa Z h a "java/lang/String" := S.1
theorem own_narb (x : Int32) : nar .byte x.toInt8.toInt32 = x.toInt8.toInt32 := by simp [nar]
theorem own_char {x : Int32} (h0 : ¬ x < 0) (h1 : ¬ (255 : Int32) < x) : nar .char x = x ∧ x.toUInt32.toUInt16.toUInt32.toInt32 = x := by
  have t : ∀ k : Fin 256, nar .char (Int32.ofNat k.val) = Int32.ofNat k.val ∧ (Int32.ofNat k.val).toUInt32.toUInt16.toUInt32.toInt32 = Int32.ofNat k.val := by decide +kernel
  rw [Int32.lt_iff_toInt_lt] at h0 h1
  have e0 : (0 : Int32).toInt = 0 := rfl
  have e1 : (255 : Int32).toInt = 255 := rfl
  obtain ⟨k, hk⟩ : ∃ k : Nat, x.toInt = k := ⟨x.toInt.toNat, by omega⟩
  have hx : x = Int32.ofNat k := Int32.toInt_inj.mp (by rw [hk, Int32.toInt_ofNat_small (by omega)])
  rw [hx]
  exact t ⟨k, by omega⟩
theorem own_mask (x : Int32) : ¬ (x &&& (255 : Int32)) < 0 ∧ ¬ (255 : Int32) < (x &&& (255 : Int32)) := by
  have h := c_and x 255 (by decide)
  have e0 : (0 : Int32).toInt = 0 := rfl
  have e1 : (255 : Int32).toInt = 255 := rfl
  rw [Int32.lt_iff_toInt_lt, Int32.lt_iff_toInt_lt, e0, e1]; rw [e1] at h; omega
theorem own_mask_c (x : Int32) : (x &&& (255 : Int32)).toUInt32.toUInt16.toUInt32.toInt32 = x &&& (255 : Int32) := (own_char (own_mask x).1 (own_mask x).2).2
theorem own_mask_n (x : Int32) : nar .char (x &&& (255 : Int32)) = x &&& (255 : Int32) := (own_char (own_mask x).1 (own_mask x).2).1
theorem own_not0 {args : Array Value} {s : State} {t : Term} {G : Int32} (e : t.eval args s none [] s = some (.int G)) (h : (Jvm.Cond.not (Jvm.Cond.eq t (Jvm.Term.int (0 : Int32)))).before args s = true) : ¬ (G = (0 : Int32)) := by
  intro q; subst q
  have h1 := Cond.before_iff.mp h
  simp [Cond.value, e, Term.eval] at h1
section OwnWide
variable {p : Program} {l : Launch} {e : Env} {R : Room} {s : State} {m : MethodId} {args : Array Value} {below : List Frame} {meth : Method} {c : Code} {T : State} {locs : List Loc} {cells slots : Nat} {G : State → Outcome → Prop} {B : ByteArray} {pc pc' : Nat} {Ls Ls' : Array Slot} {st : List Value} {Z : State} {a0 : Array Value} {h h' h'' hb0 : Heap} {EL : List (String × Nat)} {vm0 v0 : Vm}
def own_Sn (s : State) (vm : Vm) (h : Heap) : Prop := ∃ k, s.Since vm k ∧ k ≤ h.size
theorem own_Sn.ext (S : own_Sn s vm0 h) (E : Ext h h') : own_Sn s vm0 h' := by obtain ⟨k, h1, h2⟩ := S; exact ⟨k, h1, Nat.le_trans h2 E.1⟩
def own_CH (Z : State) (EL : List (String × Nat)) (v0 : Vm) (hb0 : Heap) (vm : Vm) (h : Heap) : Prop := CHr Z EL v0 hb0 vm h
theorem own_CH.ext (A : own_CH Z EL v0 hb0 vm0 h) (E : Ext h h') : own_CH Z EL v0 hb0 vm0 h' := CHr.trans A (CHr.ext E A.1)
theorem own_Sn.wr {a : Addr} {sl : Nat} {v : Value} (S : own_Sn s vm0 h) (W : Wr h h' a sl v) : own_Sn s vm0 h' := by obtain ⟨k, h1, h2⟩ := S; exact ⟨k, h1, by rw [W.size]; exact h2⟩
theorem own_Sn.keep {ws : List Addr} (S : own_Sn s vm0 h) (K : Keep h h' ws) : own_Sn s vm0 h' := by obtain ⟨k, h1, h2⟩ := S; exact ⟨k, h1, Nat.le_trans h2 K.1⟩
theorem own_CH.wr {a : Addr} {sl : Nat} {v : Value} (A : own_CH Z EL v0 hb0 vm0 h) (W : Wr h h' a sl v) (S : Safe Z EL vm0 h a) : own_CH Z EL v0 hb0 vm0 h' := CHr.trans A (CHr.wr W S A.1)
theorem own_CH.keep {ws : List Addr} (A : own_CH Z EL v0 hb0 vm0 h) (K : Keep h h' ws) (S : ∀ x ∈ ws, Safe Z EL vm0 h x) : own_CH Z EL v0 hb0 vm0 h' := CHr.trans A (CHr.keep K S A.1)
def own_EndW (Z : State) (EL : List (String × Nat)) (s : State) (h0 : Heap) (below : List Frame) (Q : Option Value → Heap → List Loc → Prop) (C S : Nat) (s₂ : State) (o : Outcome) : Prop := s₂.status = .running ∧ Ended s₂ below o ∧ ∃ v L, o = .returned v ∧ Q v s₂.heap L ∧ CHr Z EL s.vm h0 s₂.vm s₂.heap ∧ ReturnedEndW s o s₂ L C S
/-- a body's wide contract -/
def own_MetW (l : Launch) (Z : State) (EL : List (String × Nat)) (x : MethodName) (bytes : ByteArray) (maxL : Nat) (ret : Option FieldType) (rm : Room) (as' : Array Value) (h0 : Heap) (Q : Option Value → Heap → List Loc → Prop) : Prop :=
  ∀ ws : List Jvm.Cond, MetFree l x (head1 (Jvm.Cond.code x bytes maxL ret :: ws) rm) (fun a U => a = as' ∧ Z.Warmed39 U.vm ∧ U.heap = h0 ∧ CHv Z EL U.vm h0) (fun _ _ _ _ _ => True) (fun _ U o U' => ∃ v L, o = .returned v ∧ Q v U'.heap L ∧ CHr Z EL U.vm U.heap U'.vm U'.heap ∧ ReturnedEndW U o U' L rm.cells rm.slots)
theorem own_bodyW {x : MethodName} {bytes : ByteArray} {maxL : Nat} {ret : Option FieldType} {rm : Room} {as' : Array Value} {h0 : Heap} {Q : Option Value → Heap → List Loc → Prop} (hpl : plainFor x = true)
    (body : ∀ (p : Program) (e : Env) (s : State) (m : MethodId) (below : List Frame) (meth : Method) (c : Code) (s₁ : State) (vm0 : Vm), p.tables.exec = Jvm.exec → c.code = bytes → c.maxLocals = maxL → vm0.findClass x.cls = some m.cls → meth.name = x.name → meth.locks = false → meth.sig.returnType = ret → Z.Warmed39 vm0 → Z.Warmed39 s.vm → own_Sn s vm0 h0 → own_CH Z EL s.vm h0 vm0 h0 → Stand p l e rm (s.setVm vm0) m as' below meth c s₁ [] 0 0 → s₁.heap = h0 →
      own_E p.tables e below (own_EndW Z EL s h0 below Q rm.cells rm.slots) (s₁.setTop (entryFrame m as' maxL))) : own_MetW l Z EL x bytes maxL ret rm as' h0 Q := by
  intro ws
  refine MetFree.of_bodySF hpl hisR ?_
  intro p e s m args below meth c s₁ Bd hml0 hP hK
  obtain ⟨rfl, hZ, hh, hC⟩ := hP
  obtain ⟨s₂, o, q1, q2, q3, v, L, q4, q5, q6, q7⟩ := body p e s m below meth c s₁ s.vm Bd.exec Bd.bytes hml0 (findClass_of_methodNamed Bd.named) (name_of_methodNamed Bd.named Bd.method).1 (BodyLoose.notSynchronized Bd) Bd.returns hZ hZ ⟨0, (State.WarmedH.refl s).since 0, Nat.zero_le _⟩ (CHr.refl hC) (Stand.of_body Bd) (by rw [← hh, Bd.state]; rfl)
  exact ⟨s₂, o, q1, q2, q3, v, L, q4, q5, by rw [hh]; exact q6, q7⟩
theorem own_backW {y : MethodName} {bytes : ByteArray} {maxL : Nat} {ret : Option FieldType} {rm : Room} {len W : Nat} {as' : Array Value} {Q : Option Value → Heap → List Loc → Prop} (hM : own_MetW l Z EL y bytes maxL ret rm as' h Q)
    (hZ : Z.Warmed39 vm0) (hEL : EW Z a0 EL) (wc : (Jvm.Cond.code y bytes maxL ret).before a0 Z = true) (wz : (Jvm.Cond.initialized y.cls).before a0 Z = true) (A : own_CH Z EL v0 hb0 vm0 h) (hf : rm.frames + 1 ≤ R.frames) (hl : W + (maxL + 11) + rm.locals ≤ R.locals) :
    BackS l R p e below (s.setVm vm0) args y len W (fun A a => a = as' ∧ A.U.heap = h ∧ A.cells + rm.cells ≤ R.cells ∧ A.slots + rm.slots ≤ R.slots)
      (fun A _ v B => ∃ L, Q v B.U.heap L ∧ B.locs = A.locs ++ L ∧ B.cells = A.cells + rm.cells ∧ B.slots = A.slots + rm.slots ∧ CHr Z EL vm0 h B.U.vm B.U.heap) := backOfSH (hM []) hZ wc wz hf hl hEL A.1
theorem own_retW (X : Stand p l e R (s.setVm vm0) m args below meth c T locs cells slots) (hZ : Z.Warmed39 vm0) (hEL : EW Z a0 EL) (eT : T.heap = h) (SN : own_Sn s vm0 h) (A : own_CH Z EL s.vm hb0 vm0 h) {Q : Option Value → Heap → List Loc → Prop} {C S : Nat} {v : Option Value} (hv : meth.sig.returnType = none → v = none) (hlocks : meth.locks = false)
    (hst : ∀ fs : List Frame, (∀ (f : JFrame) (acts : List Action), f.method = m → f.locked = none → f.entered = [] → (doReturn e (T.setTop f) acts v).1 = T.setFrames fs) → Steps p.tables e below (T.setTop (mkF m pc Ls st)) (T.setFrames fs))
    (hq : Q v h locs) (hc : cells ≤ C) (hs : slots ≤ S) : own_E p.tables e below (own_EndW Z EL s hb0 below Q C S) (T.setTop (mkF m pc Ls st)) := by
  obtain ⟨k, h1, h2⟩ := SN
  obtain ⟨fs, hr, hrun, hended, r1, r2, r3, r4⟩ := X.leaveW h1 (by rw [eT]; exact h2) hv hlocks
  have AT := CHv.at X hZ hEL A.1
  subst eT
  exact ⟨_, _, hst fs hr, hrun, hended, v, locs, rfl, hq, CHr.trans A AT, r1, r2, r3, r4.mono hc hs⟩
theorem own_retNW (X : Stand p l e R (s.setVm vm0) m args below meth c T locs cells slots) (hx : p.tables.exec = Jvm.exec) (hby : c.code = B) (hZ : Z.Warmed39 vm0) (hEL : EW Z a0 EL) (eT : T.heap = h) (SN : own_Sn s vm0 h) (A : own_CH Z EL s.vm hb0 vm0 h) {Q : Option Value → Heap → List Loc → Prop} {C S : Nat} {t : FieldType} {z z' : Int32} (hlocks : meth.locks = false) (hret : meth.sig.returnType = some t) (ht : t = .boolean ∨ t = .byte ∨ t = .char ∨ t = .short)
    (hd : decode B pc = .ok (.ireturn, 1)) (hz : nar t z = z') (hq : Q (some (.int z')) h locs) (hc : cells ≤ C) (hs : slots ≤ S) : own_E p.tables e below (own_EndW Z EL s hb0 below Q C S) (T.setTop (mkF m pc Ls (.int z :: st))) :=
  own_retW X hZ hEL eT SN A (fun h => by rw [hret] at h; cases h) hlocks (fun fs hl => retN X hx (t := t) hret ht (hb hby hd) (by rw [hz]; exact hl)) hq hc hs
theorem own_retIW (X : Stand p l e R (s.setVm vm0) m args below meth c T locs cells slots) (hx : p.tables.exec = Jvm.exec) (hby : c.code = B) (hZ : Z.Warmed39 vm0) (hEL : EW Z a0 EL) (eT : T.heap = h) (SN : own_Sn s vm0 h) (A : own_CH Z EL s.vm hb0 vm0 h) {Q : Option Value → Heap → List Loc → Prop} {C S : Nat} {z : Int32} (hlocks : meth.locks = false) (hret : meth.sig.returnType = some .int)
    (hd : decode B pc = .ok (.ireturn, 1)) (hq : Q (some (.int z)) h locs) (hc : cells ≤ C) (hs : slots ≤ S) : own_E p.tables e below (own_EndW Z EL s hb0 below Q C S) (T.setTop (mkF m pc Ls (.int z :: st))) :=
  own_retW X hZ hEL eT SN A (fun h => by rw [hret] at h; cases h) hlocks (fun fs hl => retOut X hx hret rfl (Or.inl ⟨rfl, Or.inl rfl, _, rfl⟩) (hb hby hd) hl) hq hc hs
theorem own_retAW (X : Stand p l e R (s.setVm vm0) m args below meth c T locs cells slots) (hx : p.tables.exec = Jvm.exec) (hby : c.code = B) (hZ : Z.Warmed39 vm0) (hEL : EW Z a0 EL) (eT : T.heap = h) (SN : own_Sn s vm0 h) (A : own_CH Z EL s.vm hb0 vm0 h) {Q : Option Value → Heap → List Loc → Prop} {C S : Nat} {t : FieldType} {v : Value} (hlocks : meth.locks = false) (hret : meth.sig.returnType = some t) (ht : t.isReference = true) (hv : v.isRef = true)
    (hd : decode B pc = .ok (.areturn, 1)) (hq : Q (some v) h locs) (hc : cells ≤ C) (hs : slots ≤ S) : own_E p.tables e below (own_EndW Z EL s hb0 below Q C S) (T.setTop (mkF m pc Ls (v :: st))) :=
  own_retW X hZ hEL eT SN A (fun h => by rw [hret] at h; cases h) hlocks (fun fs hl => retOut X hx hret (by cases t <;> first | (cases ht; done) | (rcases ref_cases hv with rfl | ⟨_, rfl⟩ <;> rfl)) (Or.inr (Or.inr (Or.inr (Or.inr ⟨rfl, ht, hv⟩)))) (hb hby hd) hl) hq hc hs
theorem own_ret0W (X : Stand p l e R (s.setVm vm0) m args below meth c T locs cells slots) (hx : p.tables.exec = Jvm.exec) (hby : c.code = B) (hZ : Z.Warmed39 vm0) (hEL : EW Z a0 EL) (eT : T.heap = h) (SN : own_Sn s vm0 h) (A : own_CH Z EL s.vm hb0 vm0 h) {Q : Option Value → Heap → List Loc → Prop} {C S : Nat} (hlocks : meth.locks = false) (hret : meth.sig.returnType = none)
    (hd : decode B pc = .ok (.return_, 1)) (hq : Q none h locs) (hc : cells ≤ C) (hs : slots ≤ S) : own_E p.tables e below (own_EndW Z EL s hb0 below Q C S) (T.setTop (mkF m pc Ls [])) :=
  own_retW X hZ hEL eT SN A (fun _ => rfl) hlocks (fun fs hl => X.returnOut hx hret (hb hby hd) hl) hq hc hs
theorem own_callSW (X : Stand p l e R (s.setVm vm0) m args below meth c T locs cells slots) (hx : p.tables.exec = Jvm.exec) (hby : c.code = B) {own : String} {index nl : Nat} {as' : Array Value} {W cc ss : Nat} {Q : Option Value → Heap → List Loc → Prop} {y : MethodName} {bytes : ByteArray} {maxL : Nat} {ret : Option FieldType} (hml : c.maxLocals = nl) (hZ : Z.Warmed39 vm0) (hown : vm0.findClass own = some m.cls) (SN : own_Sn s vm0 h) (A : own_CH Z EL v0 hb0 vm0 h)
    (w1 : (Cond.methodLink own index y).before a0 Z = true) (w2 : (Cond.static y).before a0 Z = true) (w3 : (Cond.initialized y.cls).before a0 Z = true) (w4 : (Cond.code y bytes maxL ret).before a0 Z = true) (hy : y.cls ≠ "java/lang/invoke/MethodHandle" ∧ y.cls ≠ "java/lang/invoke/VarHandle")
    (hK : BackS l R p e below (s.setVm vm0) args y 3 W (fun P a => a = as' ∧ P.U.heap = h ∧ P.cells + cc ≤ R.cells ∧ P.slots + ss ≤ R.slots) (fun P _ v B => ∃ L, Q v B.U.heap L ∧ B.locs = P.locs ++ L ∧ B.cells = P.cells + cc ∧ B.slots = P.slots + ss ∧ CHr Z EL vm0 h B.U.vm B.U.heap)) (hsz : Ls.size = nl) {argsL rest : List Value} {ps : List FieldType} {r : Option FieldType} (hpd : parseMethodDescriptor y.desc = some ⟨ps, r⟩) (hlen : argsL.length = ps.length) (hst : st = argsL.reverse ++ rest) (hW : (rest.map fun v => v.category).sum ≤ W)
    (hd : decode B pc = .ok (.invokestatic index, 3)) (hp : pc + 3 = pc') (hargs : argsL.toArray = as') (eT : T.heap = h) (hc : cells + cc ≤ R.cells) (hs : slots + ss ≤ R.slots)
    (k : ∀ (v : Option Value) (T' : State) (vm1 : Vm) (h' : Heap) (L : List Loc), Stand p l e R (s.setVm vm1) m args below meth c T' (locs ++ L) (cells + cc) (slots + ss) → T'.heap = h' → Z.Warmed39 vm1 → vm1.findClass own = some m.cls → own_Sn s vm1 h' → own_CH Z EL v0 hb0 vm1 h' → h.size ≤ h'.size → Q v h' L → own_E p.tables e below G (T'.setTop (mkF m pc' Ls (v.toList ++ rest)))) : own_E p.tables e below G (T.setTop (mkF m pc Ls st)) := by
  subst hp
  obtain ⟨v, vm₁, ⟨T', L', k', n'⟩, -, X', hS, hgr, ⟨L, hQ, q1, q2, q3, q4⟩, stp⟩ := callSS X hx hown (mvT (s := s.setVm vm0) hZ w1) (mvT (s := s.setVm vm0) hZ w2) (mvT (s := s.setVm vm0) hZ w3) (mvT (s := s.setVm vm0) hZ w4) hy hK (g := mkF m pc Ls st) rfl (by rw [hml]; exact hsz) (argsL := argsL) (rest := rest) (lenOf hpd hlen) hst (by show 2 * 0 + _ ≤ _; rw [Nat.mul_zero, Nat.zero_add]; exact hW) (hb hby hd) (fun _ _ => ⟨hargs, eT, hc, hs⟩)
  dsimp only at X' hQ q1 q2 q3 q4 stp hgr
  subst q1 q2 q3
  obtain ⟨k0, s1, s2⟩ := SN
  have hW : Z.Warmed39 T'.vm := State.Warmed39.trans (t := s.setVm vm0) hZ hS.1
  have hSn : own_Sn s T'.vm T'.heap := ⟨_, s1.trans hS (Nat.le_trans s2 (by rw [← eT]; exact hgr)), Nat.le_refl _⟩
  have hf : T'.vm.findClass own = some m.cls := by rw [hS.1.alike.findClass]; exact hown
  exact own_tr stp (k v T' T'.vm _ L X' rfl hW hf hSn (CHr.trans A q4) (by rw [← eT]; exact hgr) hQ)
theorem own_specW (X : Stand p l e R (s.setVm vm0) m args below meth c T locs cells slots) (hx : p.tables.exec = Jvm.exec) (hby : c.code = B) {own : String} {index nl : Nat} {as' : Array Value} {W cc ss : Nat} {Q : Option Value → Heap → List Loc → Prop} {y : MethodName} {bytes : ByteArray} {maxL : Nat} (hml : c.maxLocals = nl) (hZ : Z.Warmed39 vm0) (hown : vm0.findClass own = some m.cls) (SN : own_Sn s vm0 h) (A : own_CH Z EL v0 hb0 vm0 h) (hy1 : y.name = "<init>")
    (w1 : (Cond.methodLink own index y).before a0 Z = true) (w2 : (Cond.instanceMethod y).before a0 Z = true) (w4 : (Cond.code y bytes maxL none).before a0 Z = true) (hy : y.cls ≠ "java/lang/invoke/MethodHandle" ∧ y.cls ≠ "java/lang/invoke/VarHandle")
    (hK : BackS l R p e below (s.setVm vm0) args y 3 W (fun P a => a = as' ∧ P.U.heap = h ∧ P.cells + cc ≤ R.cells ∧ P.slots + ss ≤ R.slots) (fun P _ v B => ∃ L, Q v B.U.heap L ∧ B.locs = P.locs ++ L ∧ B.cells = P.cells + cc ∧ B.slots = P.slots + ss ∧ CHr Z EL vm0 h B.U.vm B.U.heap)) (hsz : Ls.size = nl) {a : Addr} {argsL rest : List Value} {ps : List FieldType} {r : Option FieldType} (hpd : parseMethodDescriptor y.desc = some ⟨ps, r⟩) (hlen : argsL.length = ps.length) (hst : st = argsL.reverse ++ .ref a :: rest) (hW : (rest.map fun v => v.category).sum ≤ W)
    (hd : decode B pc = .ok (.invokespecial index, 3)) (hp : pc + 3 = pc') (hargs : (.ref a :: argsL).toArray = as') (eT : T.heap = h) (hc : cells + cc ≤ R.cells) (hs : slots + ss ≤ R.slots)
    (k : ∀ (v : Option Value) (T' : State) (vm1 : Vm) (h' : Heap) (L : List Loc), Stand p l e R (s.setVm vm1) m args below meth c T' (locs ++ L) (cells + cc) (slots + ss) → T'.heap = h' → Z.Warmed39 vm1 → vm1.findClass own = some m.cls → own_Sn s vm1 h' → own_CH Z EL v0 hb0 vm1 h' → h.size ≤ h'.size → Q v h' L → own_E p.tables e below G (T'.setTop (mkF m pc' Ls (v.toList ++ rest)))) : own_E p.tables e below G (T.setTop (mkF m pc Ls st)) := by
  subst hp
  obtain ⟨v, vm₁, ⟨T', L', k', n'⟩, -, X', hS, hgr, ⟨L, hQ, q1, q2, q3, q4⟩, stp⟩ := X.specialBackS hx hy1 hown (mvT (s := s.setVm vm0) hZ w1) (mvT (s := s.setVm vm0) hZ w2) (mvT (s := s.setVm vm0) hZ w4) hy hK (g := mkF m pc Ls st) rfl (by rw [hml]; exact hsz) (Steps.refl _) (a := a) (argsL := argsL) (rest := rest) (lenOf hpd hlen) hst (by show 2 * 0 + _ ≤ _; rw [Nat.mul_zero, Nat.zero_add]; exact hW) (hb hby hd) (fun _ _ => ⟨hargs, eT, hc, hs⟩)
  dsimp only at X' hQ q1 q2 q3 q4 stp hgr
  subst q1 q2 q3
  obtain ⟨k0, s1, s2⟩ := SN
  have hW : Z.Warmed39 T'.vm := State.Warmed39.trans (t := s.setVm vm0) hZ hS.1
  have hSn : own_Sn s T'.vm T'.heap := ⟨_, s1.trans hS (Nat.le_trans s2 (by rw [← eT]; exact hgr)), Nat.le_refl _⟩
  have hf : T'.vm.findClass own = some m.cls := by rw [hS.1.alike.findClass]; exact hown
  exact own_tr stp (k v T' T'.vm _ L X' rfl hW hf hSn (CHr.trans A q4) (by rw [← eT]; exact hgr) hQ)
theorem own_virtW (X : Stand p l e R (s.setVm vm0) m args below meth c T locs cells slots) (hx : p.tables.exec = Jvm.exec) (hby : c.code = B) {own : String} {index nl : Nat} {as' : Array Value} {W cc ss : Nat} {Q : Option Value → Heap → List Loc → Prop} {C : String} {y z : MethodName} (hml : c.maxLocals = nl) (hZ : Z.Warmed39 vm0) (hown : vm0.findClass own = some m.cls) (SN : own_Sn s vm0 h) (A : own_CH Z EL v0 hb0 vm0 h)
    (w1 : (Cond.methodLink own index y).before a0 Z = true) (w2 : (Cond.declares y).before a0 Z = true) (hnf : NotFace (s.setVm vm0) y) (w3 : (Cond.selects C y z).before a0 Z = true) (w4 : (Cond.instanceMethod z).before a0 Z = true) (hy : y.cls ≠ "java/lang/invoke/MethodHandle" ∧ y.cls ≠ "java/lang/invoke/VarHandle")
    (hK : BackS l R p e below (s.setVm vm0) args z 3 W (fun P a => a = as' ∧ P.U.heap = h ∧ P.cells + cc ≤ R.cells ∧ P.slots + ss ≤ R.slots) (fun P _ v B => ∃ L, Q v B.U.heap L ∧ B.locs = P.locs ++ L ∧ B.cells = P.cells + cc ∧ B.slots = P.slots + ss ∧ CHr Z EL vm0 h B.U.vm B.U.heap)) (hsz : Ls.size = nl) {a : Addr} (hE : Exa Z h a C) {argsL rest : List Value} {ps : List FieldType} {r : Option FieldType} (hpd : parseMethodDescriptor y.desc = some ⟨ps, r⟩) (hlen : argsL.length = ps.length) (hst : st = argsL.reverse ++ .ref a :: rest) (hW : (rest.map fun v => v.category).sum ≤ W)
    (hd : decode B pc = .ok (.invokevirtual index, 3)) (hp : pc + 3 = pc') (hargs : (.ref a :: argsL).toArray = as') (eT : T.heap = h) (hc : cells + cc ≤ R.cells) (hs : slots + ss ≤ R.slots)
    (k : ∀ (v : Option Value) (T' : State) (vm1 : Vm) (h' : Heap) (L : List Loc), Stand p l e R (s.setVm vm1) m args below meth c T' (locs ++ L) (cells + cc) (slots + ss) → T'.heap = h' → Z.Warmed39 vm1 → vm1.findClass own = some m.cls → own_Sn s vm1 h' → own_CH Z EL v0 hb0 vm1 h' → h.size ≤ h'.size → Q v h' L → own_E p.tables e below G (T'.setTop (mkF m pc' Ls (v.toList ++ rest)))) : own_E p.tables e below G (T.setTop (mkF m pc Ls st)) := by
  subst hp
  obtain ⟨cq, kq, qa, qb, qc⟩ := isOf (s := s.setVm vm0) hZ eT hE
  obtain ⟨v, vm₁, ⟨T', L', k', n'⟩, -, X', hS, hgr, ⟨L, hQ, q1, q2, q3, q4⟩, stp⟩ := X.virtualBackS hx hown (mvT (s := s.setVm vm0) hZ w1) (mvT (s := s.setVm vm0) hZ w2) hnf (mvT (s := s.setVm vm0) hZ w3) (mvT (s := s.setVm vm0) hZ w4) hy hK qa qc (g := mkF m pc Ls st) rfl (by rw [hml]; exact hsz) (Steps.refl _) (argsL := argsL) (rest := rest) (lenOf hpd hlen) hst (by show 2 * 0 + _ ≤ _; rw [Nat.mul_zero, Nat.zero_add]; exact hW) (hb hby hd) (fun _ _ => ⟨hargs, eT, hc, hs⟩)
  dsimp only at X' hQ q1 q2 q3 q4 stp hgr
  subst q1 q2 q3
  obtain ⟨k0, s1, s2⟩ := SN
  have hW : Z.Warmed39 T'.vm := State.Warmed39.trans (t := s.setVm vm0) hZ hS.1
  have hSn : own_Sn s T'.vm T'.heap := ⟨_, s1.trans hS (Nat.le_trans s2 (by rw [← eT]; exact hgr)), Nat.le_refl _⟩
  have hf : T'.vm.findClass own = some m.cls := by rw [hS.1.alike.findClass]; exact hown
  exact own_tr stp (k v T' T'.vm _ L X' rfl hW hf hSn (CHr.trans A q4) (by rw [← eT]; exact hgr) hQ)
theorem own_callMW (X : Stand p l e R (s.setVm vm0) m args below meth c T locs cells slots) (hx : p.tables.exec = Jvm.exec) (hby : c.code = B) {own : String} {index nl : Nat} {as' : Array Value} {cc ss maxL : Nat} {bytes : ByteArray} {ret : Option FieldType} {rm : Room} {Q : Option Value → Heap → List Loc → Prop} {y : MethodName} (hml : c.maxLocals = nl) (hZ : Z.Warmed39 vm0) (hown : vm0.findClass own = some m.cls) (SN : own_Sn s vm0 h) (A : own_CH Z EL v0 hb0 vm0 h) (w1 : (Jvm.Cond.methodLink own index y).before a0 Z = true) (w2 : (Jvm.Cond.static y).before a0 Z = true) (w3 : (Jvm.Cond.initialized y.cls).before a0 Z = true) (w4 : (Jvm.Cond.code y bytes maxL ret).before a0 Z = true) (hy : y.cls ≠ "java/lang/invoke/MethodHandle" ∧ y.cls ≠ "java/lang/invoke/VarHandle")
    (hEL : EW Z a0 EL) (hM : own_MetW l Z EL y bytes maxL ret rm as' h Q) (W : Nat) (hcc : rm.cells = cc) (hss : rm.slots = ss) (hf : rm.frames + 1 ≤ R.frames) (hl : W + (maxL + 11) + rm.locals ≤ R.locals) (hsz : Ls.size = nl) {argsL rest : List Value} {ps : List FieldType} {r : Option FieldType} (hpd : parseMethodDescriptor y.desc = some ⟨ps, r⟩) (hlen : argsL.length = ps.length) (hst : st = argsL.reverse ++ rest) (hW : (rest.map fun v => v.category).sum ≤ W) (hd : decode B pc = .ok (.invokestatic index, 3)) (hp : pc + 3 = pc') (hargs : argsL.toArray = as') (eT : T.heap = h) (hc : cells + cc ≤ R.cells) (hs : slots + ss ≤ R.slots)
    (k : ∀ (v : Option Value) (T' : State) (vm1 : Vm) (h' : Heap) (L : List Loc), Stand p l e R (s.setVm vm1) m args below meth c T' (locs ++ L) (cells + cc) (slots + ss) → T'.heap = h' → Z.Warmed39 vm1 → vm1.findClass own = some m.cls → own_Sn s vm1 h' → own_CH Z EL v0 hb0 vm1 h' → h.size ≤ h'.size → Q v h' L → own_E p.tables e below G (T'.setTop (mkF m pc' Ls (v.toList ++ rest)))) : own_E p.tables e below G (T.setTop (mkF m pc Ls st)) := by
  subst hcc hss
  exact own_callSW X hx hby hml hZ hown SN A w1 w2 w3 w4 hy (own_backW hM hZ hEL w4 w3 A hf hl) hsz hpd hlen hst hW hd hp hargs eT hc hs k
theorem own_specMW (X : Stand p l e R (s.setVm vm0) m args below meth c T locs cells slots) (hx : p.tables.exec = Jvm.exec) (hby : c.code = B) {own : String} {index nl : Nat} {as' : Array Value} {cc ss maxL : Nat} {bytes : ByteArray} {rm : Room} {Q : Option Value → Heap → List Loc → Prop} {y : MethodName} (hml : c.maxLocals = nl) (hZ : Z.Warmed39 vm0) (hown : vm0.findClass own = some m.cls) (SN : own_Sn s vm0 h) (A : own_CH Z EL v0 hb0 vm0 h) (hy1 : y.name = "<init>") (w1 : (Jvm.Cond.methodLink own index y).before a0 Z = true) (w2 : (Jvm.Cond.instanceMethod y).before a0 Z = true) (w3 : (Jvm.Cond.initialized y.cls).before a0 Z = true) (w4 : (Jvm.Cond.code y bytes maxL none).before a0 Z = true) (hy : y.cls ≠ "java/lang/invoke/MethodHandle" ∧ y.cls ≠ "java/lang/invoke/VarHandle")
    (hEL : EW Z a0 EL) (hM : own_MetW l Z EL y bytes maxL none rm as' h Q) (W : Nat) (hcc : rm.cells = cc) (hss : rm.slots = ss) (hf : rm.frames + 1 ≤ R.frames) (hl : W + (maxL + 11) + rm.locals ≤ R.locals) (hsz : Ls.size = nl) {a : Addr} {argsL rest : List Value} {ps : List FieldType} {r : Option FieldType} (hpd : parseMethodDescriptor y.desc = some ⟨ps, r⟩) (hlen : argsL.length = ps.length) (hst : st = argsL.reverse ++ .ref a :: rest) (hW : (rest.map fun v => v.category).sum ≤ W) (hd : decode B pc = .ok (.invokespecial index, 3)) (hp : pc + 3 = pc') (hargs : (.ref a :: argsL).toArray = as') (eT : T.heap = h) (hc : cells + cc ≤ R.cells) (hs : slots + ss ≤ R.slots)
    (k : ∀ (v : Option Value) (T' : State) (vm1 : Vm) (h' : Heap) (L : List Loc), Stand p l e R (s.setVm vm1) m args below meth c T' (locs ++ L) (cells + cc) (slots + ss) → T'.heap = h' → Z.Warmed39 vm1 → vm1.findClass own = some m.cls → own_Sn s vm1 h' → own_CH Z EL v0 hb0 vm1 h' → h.size ≤ h'.size → Q v h' L → own_E p.tables e below G (T'.setTop (mkF m pc' Ls (v.toList ++ rest)))) : own_E p.tables e below G (T.setTop (mkF m pc Ls st)) := by
  subst hcc hss
  exact own_specW X hx hby hml hZ hown SN A hy1 w1 w2 w4 hy (own_backW hM hZ hEL w4 w3 A hf hl) hsz hpd hlen hst hW hd hp hargs eT hc hs k
theorem own_virtMW (X : Stand p l e R (s.setVm vm0) m args below meth c T locs cells slots) (hx : p.tables.exec = Jvm.exec) (hby : c.code = B) {own : String} {index nl : Nat} {as' : Array Value} {cc ss maxL : Nat} {bytes : ByteArray} {ret : Option FieldType} {rm : Room} {Q : Option Value → Heap → List Loc → Prop} {C : String} {y z : MethodName} (hml : c.maxLocals = nl) (hZ : Z.Warmed39 vm0) (hown : vm0.findClass own = some m.cls) (SN : own_Sn s vm0 h) (A : own_CH Z EL v0 hb0 vm0 h) (w1 : (Jvm.Cond.methodLink own index y).before a0 Z = true) (w2 : (Jvm.Cond.declares y).before a0 Z = true) (hnf : NotFace (s.setVm vm0) y) (w5 : (Jvm.Cond.selects C y z).before a0 Z = true) (w6 : (Jvm.Cond.instanceMethod z).before a0 Z = true) (w3 : (Jvm.Cond.initialized z.cls).before a0 Z = true) (w4 : (Jvm.Cond.code z bytes maxL ret).before a0 Z = true) (hy : y.cls ≠ "java/lang/invoke/MethodHandle" ∧ y.cls ≠ "java/lang/invoke/VarHandle")
    (hEL : EW Z a0 EL) (hM : own_MetW l Z EL z bytes maxL ret rm as' h Q) (W : Nat) (hcc : rm.cells = cc) (hss : rm.slots = ss) (hf : rm.frames + 1 ≤ R.frames) (hl : W + (maxL + 11) + rm.locals ≤ R.locals) (hsz : Ls.size = nl) {a : Addr} (hE : Exa Z h a C) {argsL rest : List Value} {ps : List FieldType} {r : Option FieldType} (hpd : parseMethodDescriptor y.desc = some ⟨ps, r⟩) (hlen : argsL.length = ps.length) (hst : st = argsL.reverse ++ .ref a :: rest) (hW : (rest.map fun v => v.category).sum ≤ W) (hd : decode B pc = .ok (.invokevirtual index, 3)) (hp : pc + 3 = pc') (hargs : (.ref a :: argsL).toArray = as') (eT : T.heap = h) (hc : cells + cc ≤ R.cells) (hs : slots + ss ≤ R.slots)
    (k : ∀ (v : Option Value) (T' : State) (vm1 : Vm) (h' : Heap) (L : List Loc), Stand p l e R (s.setVm vm1) m args below meth c T' (locs ++ L) (cells + cc) (slots + ss) → T'.heap = h' → Z.Warmed39 vm1 → vm1.findClass own = some m.cls → own_Sn s vm1 h' → own_CH Z EL v0 hb0 vm1 h' → h.size ≤ h'.size → Q v h' L → own_E p.tables e below G (T'.setTop (mkF m pc' Ls (v.toList ++ rest)))) : own_E p.tables e below G (T.setTop (mkF m pc Ls st)) := by
  subst hcc hss
  exact own_virtW X hx hby hml hZ hown SN A w1 w2 hnf w5 w6 hy (own_backW hM hZ hEL w4 w3 A hf hl) hsz hE hpd hlen hst hW hd hp hargs eT hc hs k
theorem own_ldcO (X : Stand p l e R (s.setVm vm0) m args below meth c T locs cells slots) (hx : p.tables.exec = Jvm.exec) (hby : c.code = B) {own text : String} {index : Nat} (hZ : Z.Warmed39 vm0) (hown : vm0.findClass own = some m.cls) (SN : own_Sn s vm0 h) (A : own_CH Z EL v0 hb0 vm0 h) (hEL : EW Z a0 EL) (wS : ∀ a ∈ Bundle.stringAtoms, a.before a0 Z = true) (w : (Cond.stringLink own index text).before a0 Z = true) (eT : T.heap = h) (hd : decode B pc = .ok (.ldc index, 2)) (hp : pc + 2 = pc') {n : Nat} (hn : 4 * text.toList.length ≤ n) (hbig : n ≤ 536870912) (hc : cells + 2 ≤ R.cells) (hl : slots + (n + 4) ≤ R.slots)
    (k : ∀ (T' : State) (vm1 : Vm) (h' : Heap) (a : Addr), Stand p l e R (s.setVm vm1) m args below meth c T' locs (cells + 2) (slots + (n + 4)) → T'.heap = h' → Z.Warmed39 vm1 → vm1.findClass own = some m.cls → own_Sn s vm1 h' → own_CH Z EL v0 hb0 vm1 h' → Ext h h' → own_E p.tables e below G (T'.setTop (mkF m pc' Ls (.ref a :: st)))) : own_E p.tables e below G (T.setTop (mkF m pc Ls st)) := by
  subst hp
  obtain ⟨k0, s1, s2⟩ := SN
  obtain ⟨a, T', h', k1, X', e', E', s3, s4, hW, hf, hC, -, stp⟩ := ldcOH X hx hZ hown w wS eT s1 s2 hEL A.1 (g := mkF m pc Ls st) rfl (hb hby hd) hn hbig hc hl
  exact own_go stp (k T' T'.vm h' a X' e' hW hf ⟨k1, s3, s4⟩ (CHr.trans A hC) E')
theorem own_ldcC (X : Stand p l e R (s.setVm vm0) m args below meth c T locs cells slots) (hx : p.tables.exec = Jvm.exec) (hby : c.code = B) {own text : String} {index : Nat} (hZ : Z.Warmed39 vm0) (hown : vm0.findClass own = some m.cls) (SN : own_Sn s vm0 h) (A : own_CH Z EL v0 hb0 vm0 h) (hEL : EW Z a0 EL) (wS : ∀ a ∈ Bundle.stringAtoms, a.before a0 Z = true) (w : (Cond.stringLink own index text).before a0 Z = true) (eT : T.heap = h) (hd : decode B pc = .ok (.ldc index, 2)) (hp : pc + 2 = pc') {n : Nat} (hn : 4 * text.toList.length ≤ n) (hbig : n ≤ 536870912) (hc : cells + 2 ≤ R.cells) (hl : slots + (n + 4) ≤ R.slots) (hmem : (own, index) ∈ EL) (cs : List Int32) (ht : (∀ c ∈ text.toList, c.toNat < 256) ∧ text.toList.map (fun c => Value.int (Jvm.Lit.byteI c.toNat.toUInt16)) = (cs.map (fun c => c.toInt8.toInt32)).map Value.int) (hcs : ∀ c ∈ cs, ¬ c < 0 ∧ ¬ (255 : Int32) < c) (hz : ¬ (Int32.ofNat cs.length) < 0) (hlc : (Int32.ofNat cs.length).toNatClampNeg = cs.length)
    (k : ∀ (T' : State) (vm1 : Vm) (h' : Heap) (a : Addr), Stand p l e R (s.setVm vm1) m args below meth c T' locs (cells + 2) (slots + (n + 4)) → T'.heap = h' → Z.Warmed39 vm1 → vm1.findClass own = some m.cls → own_Sn s vm1 h' → own_CH Z EL v0 hb0 vm1 h' → Ext h h' → own_Str Z h' a cs → own_E p.tables e below G (T'.setTop (mkF m pc' Ls (.ref a :: st)))) : own_E p.tables e below G (T.setTop (mkF m pc Ls st)) := by
  subst hp
  obtain ⟨k0, s1, s2⟩ := SN
  obtain ⟨a, T', h', k1, b, kb, X', e', E', s3, s4, hW, hf, t1, t2, t3, t4, -, -, hC, -, -, stp⟩ := ldcCH X hx hZ hown w wS eT s1 s2 hEL hmem A.1 ht hz (by rw [hlc]; simp) (g := mkF m pc Ls st) rfl (hb hby hd) hn hbig hc hl
  exact own_go stp (k T' T'.vm h' a X' e' hW hf ⟨k1, s3, s4⟩ (CHr.trans A hC) E' ⟨t1, t2, hcs, b, kb, t3, t4⟩)
theorem own_safe_null {x : Addr} (hal : Z.vm.Alike vm0) (E : Exa Z h x "java/lang/String") (F : Fld Z h x "java/lang/String" "value" "[B" .null) (wi : (Jvm.Cond.instantiable "java/lang/String" 4).before a0 Z = true) : Safe Z EL vm0 h x := fun Bq => by
  obtain ⟨pp, -, u, a, -, q, -, Fq, hx⟩ := Bq
  obtain ⟨cS, ⟨⟨s1, s2, s3, ⟨cv, kv, iv, s4, s4'⟩, s5, s6, s7, s8, s9, s10, s11, s12, -⟩, hfS, hcS⟩, -⟩ := Fq
  obtain ⟨cell, cf, k, i, f, g1, g2, g3, g4, g5, g6, g7⟩ := F
  rcases hx with rfl | rfl
  · cases (show h[q.sa]? = some q.sC from s1).symm.trans g1
    obtain ⟨k', e1⟩ := ff_back (U := Wst Z vm0 h) hal s4
    cases e1.symm.trans g2
    rw [s8] at g7; cases g7
  · obtain ⟨c2, k2, e1, e2, e3, e4, -⟩ := E
    cases (show h[q.sd]? = some q.SA from s10).symm.trans e1
    obtain ⟨-, kB, hkB, compB, hkindB⟩ := s11
    obtain ⟨c3, k3, i1, i2, i3, -⟩ := Cond.instantiable_spec wi
    cases e2.symm.trans i1
    obtain ⟨k4, j1, j2⟩ := hal.2.2 _ _ i2
    cases (show vm0.classes[q.SA.cls]? = some kB from hkB).symm.trans j1
    rw [j2, show k3.kind = .ordinary from i3] at hkindB; cases hkindB
end OwnWide

section OwnFive
variable {p : Program} {l : Launch} {e : Env} {R : Room} {s : State} {m : MethodId} {args : Array Value} {below : List Frame} {meth : Method} {c : Code} {T : State} {locs : List Loc} {cells slots : Nat} {G : State → Outcome → Prop} {B : ByteArray} {pc pc' : Nat} {Ls Ls' : Array Slot} {st : List Value} {Z : State} {a0 : Array Value} {h h' h'' : Heap}
theorem own_lswitch (X : Stand p l e R s m args below meth c T locs cells slots) (hx : p.tables.exec = Jvm.exec) (hby : c.code = B) {x : Int32} {d : Int} {ps : Array (Int × Int)} {len : Nat} {a off : Int} (hd : decode B pc = .ok (.lookupswitch d ps, len)) (hsorted : (ps.toList.zip (ps.toList.drop 1)).all (fun (a, next) => a.1 < next.1) = true) (hfind : ps.find? (·.1 == x.toInt) = some (a, off)) (hoff : 0 ≤ (pc : Int) + off) (hp : ((pc : Int) + off).toNat = pc')
    (k : own_E p.tables e below G (T.setTop (mkF m pc' Ls (st)))) : own_E p.tables e below G (T.setTop (mkF m pc Ls (.int x :: st))) := by
  subst hp; exact own_go (fun t q => X.lookupswitchHit hx (g := mkF m pc Ls (.int x :: st)) rfl rfl (hb hby hd) hsorted hfind hoff t q) k
theorem own_superM (X : Stand p l e R s m args below meth c T locs cells slots) (hx : p.tables.exec = Jvm.exec) (hby : c.code = B) {own : String} {index nl : Nat} {as' : Array Value} {cc ss maxL : Nat} {bytes : ByteArray} {ret : Option FieldType} {rm : Room} {Q : Option Value → Heap → List Loc → Prop} {K : String} {y : MethodName} (hml : c.maxLocals = nl) (hZ : Z.Warmed39 s.vm) (hown : s.vm.findClass own = some m.cls) (w1 : (Jvm.Cond.methodLink own index y).before a0 Z = true) (w2 : (Jvm.Cond.sameMethod y.cls y.cls y.name y.desc).before a0 Z = true) (w5 : (Jvm.Cond.instanceMethod y).before a0 Z = true) (w6 : (Jvm.Cond.superclass own y.cls).before a0 Z = true) (hn : y.name ≠ "<init>") (w3 : (Jvm.Cond.initialized y.cls).before a0 Z = true) (w4 : (Jvm.Cond.code y bytes maxL ret).before a0 Z = true)
    (hM : own_Met l Z y bytes maxL ret rm as' h Q) (W : Nat) (hcc : rm.cells = cc) (hss : rm.slots = ss) (hf : rm.frames + 1 ≤ R.frames) (hl : W + (maxL + 11) + rm.locals ≤ R.locals) (hsz : Ls.size = nl) {a : Addr} (hE : Ins Z h a K true) {argsL rest : List Value} {ps : List FieldType} {r : Option FieldType} (hpd : parseMethodDescriptor y.desc = some ⟨ps, r⟩) (hlen : argsL.length = ps.length) (hst : st = argsL.reverse ++ .ref a :: rest) (hW : (rest.map fun v => v.category).sum ≤ W) (hd : decode B pc = .ok (.invokespecial index, 3)) (hp : pc + 3 = pc') (hargs : (.ref a :: argsL).toArray = as') (eT : T.heap = h) (hc : cells + cc ≤ R.cells) (hs : slots + ss ≤ R.slots)
    (k : ∀ (v : Option Value) (T' : State) (h' : Heap) (L : List Loc), Stand p l e R s m args below meth c T' (locs ++ L) (cells + cc) (slots + ss) → T'.heap = h' → Q v h' L → own_E p.tables e below G (T'.setTop (mkF m pc' Ls (v.toList ++ rest)))) : own_E p.tables e below G (T.setTop (mkF m pc Ls st)) := by
  subst hcc hss hp
  obtain ⟨v, vm₁, ⟨T', L', k', n'⟩, -, X', ⟨L, hQ, q1, q2, q3⟩, stp⟩ := superBack X hx hZ hown w1 w2 w5 w6 hn (own_back hM hZ w4 w3 hf hl) eT hE (g := mkF m pc Ls st) rfl (by rw [hml]; exact hsz) w4 (argsL := argsL) (rest := rest) (lenOf hpd hlen) hst (by show 2 * 0 + _ ≤ _; rw [Nat.mul_zero, Nat.zero_add]; exact hW) (hb hby hd) (fun _ _ => ⟨hargs, eT, hc, hs⟩)
  dsimp only at X' hQ q1 q2 q3 stp
  subst q1 q2 q3
  exact own_tr stp (k v T' _ L X' rfl hQ)
theorem own_cp (X : Stand p l e R s m args below meth c T locs cells slots) (hx : p.tables.exec = Jvm.exec) (hby : c.code = B) (hZ : Z.Warmed39 s.vm) {own : String} {index nl : Nat} (hml : c.maxLocals = nl) (hown : s.vm.findClass own = some m.cls) (w1 : (Jvm.Cond.methodLink own index Jvm.Stand.acN).before a0 Z = true) (w2 : (Jvm.Cond.native Jvm.Stand.acN).before a0 Z = true) (w3 : (Jvm.Cond.static Jvm.Stand.acN).before a0 Z = true) (w4 : (Jvm.Cond.initialized "java/lang/System").before a0 Z = true) (eT : T.heap = h)
    {a b : Addr} {k k' : ClassId} {ty : FieldType} {z z' sp dp nn : Int32} {vs vd us : List Value} {dv dd : Value} (A : Arv Z h a k ty z vs dv) (D : Arv Z h b k' ty z' vd dd) (hty : refKind ty = false) (h1 : ¬ sp < 0) (h2 : ¬ dp < 0) (h3 : ¬ nn < 0) (h4 : sp.toNatClampNeg + nn.toNatClampNeg ≤ z.toNatClampNeg) (h5 : dp.toNatClampNeg + nn.toNatClampNeg ≤ z'.toNatClampNeg)
    (hus : us = (List.range nn.toNatClampNeg).map fun i => vs.getD (sp.toNatClampNeg + i) dv) (hl : dp.toNatClampNeg + nn.toNatClampNeg ≤ vd.length) {n0 : Nat} (N : Fr n0 locs) (ge : n0 ≤ b) (hsz : Ls.size = nl) (hd : decode B pc = .ok (.invokestatic index, 3)) (hp : pc + 3 = pc') (hf : 1 ≤ R.frames) {W : Nat} (hW : (st.map fun v => v.category).sum ≤ W) (hlo : W + (nativeFrameWords "java/lang/System" "arraycopy" 5 + 11) ≤ R.locals)
    (k : ∀ (T' : State) (h' : Heap) (L : List Loc), Stand p l e R s m args below meth c T' L cells slots → T'.heap = h' → Fr n0 L → Keep h h' [b] → Arv Z h' b k' ty z' (vd.take dp.toNatClampNeg ++ us ++ vd.drop (dp.toNatClampNeg + nn.toNatClampNeg)) dd → own_E p.tables e below G (T'.setTop (mkF m pc' Ls (st)))) : own_E p.tables e below G (T.setTop (mkF m pc Ls (.int nn :: .int dp :: .ref b :: .int sp :: .ref a :: st))) := by
  subst hp
  obtain ⟨T', h', L, X', e', N', K', A', stp⟩ := cpA X hx hZ hown w1 w2 w3 w4 eT A D (Or.inl ⟨rfl, hty⟩) h1 h2 h3 h4 h5 hus hl N ge (g := mkF m pc Ls (.int nn :: .int dp :: .ref b :: .int sp :: .ref a :: st)) rfl (by rw [hml]; exact hsz) rfl (hb hby hd) hf (by show 2 * 0 + _ ≤ _; rw [Nat.mul_zero, Nat.zero_add]; exact hW) hlo
  exact own_go stp (k T' h' L X' e' N' K' A')
theorem own_clone (X : Stand p l e R s m args below meth c T locs cells slots) (hx : p.tables.exec = Jvm.exec) (hby : c.code = B) (hZ : Z.Warmed39 s.vm) {own ad : String} {index nl : Nat} (hml : c.maxLocals = nl) (hown : s.vm.findClass own = some m.cls) (w1 : (Jvm.Cond.methodLink own index ⟨ad, "clone", "()Ljava/lang/Object;"⟩).before a0 Z = true) (w2 : (Jvm.Cond.sameMethod ad "java/lang/Object" "clone" "()Ljava/lang/Object;").before a0 Z = true) (w3 : (Jvm.Cond.native ⟨"java/lang/Object", "clone", "()Ljava/lang/Object;"⟩).before a0 Z = true) (w4 : (Jvm.Cond.instanceMethod ⟨"java/lang/Object", "clone", "()Ljava/lang/Object;"⟩).before a0 Z = true) (w5 : (Jvm.Cond.selects ad ⟨ad, "clone", "()Ljava/lang/Object;"⟩ ⟨"java/lang/Object", "clone", "()Ljava/lang/Object;"⟩).before a0 Z = true) (w6 : (Jvm.Cond.castable ad "java/lang/Cloneable").before a0 Z = true) (eT : T.heap = h)
    {a : Addr} {kA : ClassId} {ty : FieldType} {z : Int32} {vs : List Value} {dv : Value} (F : Arv Z h a kA ty z vs dv) (Ea : Exa Z h a ad) (hsz : Ls.size = nl) (hd : decode B pc = .ok (.invokevirtual index, 3)) (hp : pc + 3 = pc') (hf : 1 ≤ R.frames) {W cap : Nat} (hW : (st.map fun v => v.category).sum ≤ W) (hl : W + 14 ≤ R.locals) (hcap : z.toNatClampNeg ≤ cap) (hc : cells + 1 ≤ R.cells) (hsl : slots + cap ≤ R.slots)
    (k : ∀ (T' : State) (h' : Heap) (b : Addr), b = h.size → Stand p l e R s m args below meth c T' locs (cells + 1) (slots + cap) → T'.heap = h' → Ext h h' → Arv Z h' b kA ty z vs dv → Exa Z h' b ad → own_E p.tables e below G (T'.setTop (mkF m pc' Ls (.ref b :: st)))) : own_E p.tables e below G (T.setTop (mkF m pc Ls (.ref a :: st))) := by
  subst hp
  obtain ⟨cl, A, q1, S, q3, H, Gf⟩ := F
  have FC : FitC Z cl := fitC_of A fun i hi v hv => by rw [H i hi] at hv; cases hv; exact Gf i hi
  obtain ⟨T', h', X', e', ex, A', E', stp⟩ := cloneA X hx hZ hown w1 w2 w3 w4 w5 w6 eT A Ea FC (g := mkF m pc Ls (.ref a :: st)) rfl (by rw [hml]; exact hsz) rfl (hb hby hd) hf (by show 2 * 0 + _ ≤ _; rw [Nat.mul_zero, Nat.zero_add]; exact hW) hl (by rw [S]; exact hcap) hc hsl
  exact own_go stp (k T' h' h.size rfl X' e' ex ⟨cloneOf cl, A', q1, S, q3, H, Gf⟩ E')
theorem own_newPE (X : Stand p l e R s m args below meth c T locs cells slots) (hx : p.tables.exec = Jvm.exec) (hby : c.code = B) (hZ : Z.Warmed39 s.vm) {aty : ArrayType} (w : (Jvm.Cond.arrayClass (newarray.typeOf aty)).before a0 Z = true) (eT : T.heap = h) {n : Int32} {cap : Nat} (hd : decode B pc = .ok (.newarray aty, 2)) (hp : pc + 2 = pc') (hn : ¬ n < 0) (hcap : n.toNatClampNeg ≤ cap) (hbig : cap * 8 ≤ 536870912) (hc : cells + 1 ≤ R.cells) (hl : slots + cap ≤ R.slots) {ad : String} (had : "[" ++ (newarray.typeOf aty).toString = ad)
    (k : ∀ (T' : State) (h' : Heap) (b : Addr) (kA : ClassId), b = h.size → Stand p l e R s m args below meth c T' locs (cells + 1) (slots + cap) → T'.heap = h' → Ext h h' → Arv Z h' b kA (newarray.typeOf aty) n [] (defaultValue (newarray.typeOf aty)) → Exa Z h' b ad → own_E p.tables e below G (T'.setTop (mkF m pc' Ls (.ref b :: st)))) : own_E p.tables e below G (T.setTop (mkF m pc Ls (.int n :: st))) := by
  subst hp
  obtain ⟨T', h', kA, X', e', ex, A', E', stp⟩ := newPE X hx hZ w eT (g := mkF m pc Ls (.int n :: st)) rfl (hb hby hd) rfl hn hcap hbig hc hl had
  exact own_go stp (k T' h' h.size kA rfl X' e' ex (Arv.new A' hn) E')
theorem own_nfs {C : String} {y z : MethodName} {s : State} {args : Array Value} (wz : (Jvm.Cond.selects C z z).before args s = true) (hc : z.cls = y.cls) : NotFace s y := fun r0 h0 => by
  obtain ⟨c2, r2, m2, q1, q2, q3, q4, kP, hkP, hkPi⟩ := Cond.selects_spec wz
  have nf : NotFace s z := notFace_of_selects wz
  obtain ⟨kr, hkr, hni⟩ := nf _ q3
  have e2 := findClass_of_methodNamed q3
  rw [hc] at e2
  have e3 : r0.cls = _ := Option.some.inj ((findClass_of_methodNamed h0).symm.trans e2)
  rw [← e3] at hkr
  exact ⟨kr, hkr, hni⟩
theorem own_decl {y : MethodName} {bytes : ByteArray} {maxL : Nat} {ret : Option FieldType} (w1 : (Jvm.Cond.instanceMethod y).before a0 Z = true) (w2 : (Jvm.Cond.code y bytes maxL ret).before a0 Z = true) : (Jvm.Cond.declares y).before a0 Z = true := by
  obtain ⟨mk, methM, hnamed, hmethM, hstM, habM⟩ := Cond.instanceMethod_spec w1
  obtain ⟨m2, cM, q1, -, -, -, -, -, -, hsig⟩ := Cond.code_spec hnamed w2
  cases hmethM.symm.trans q1
  simp [Cond.before, Cond.holds, Cond.value, hnamed, hmethM, hstM, hsig]
theorem own_same {C : String} {y z : MethodName} (w : (Jvm.Cond.declares y).before a0 Z = true) (wz : (Jvm.Cond.selects C z z).before a0 Z = true) (hc : z.cls = y.cls) (hy : y.cls ≠ "java/lang/invoke/MethodHandle" ∧ y.cls ≠ "java/lang/invoke/VarHandle") : (Jvm.Cond.sameMethod y.cls y.cls y.name y.desc).before a0 Z = true := by
  obtain ⟨r0, r, hn, hrm, -, -⟩ := Cond.declares_spec w
  have hf := State.methodFound?_of_named hn hy
  obtain ⟨c2, r2, m2, q1, q2, q3, q4, kP, hkP, hkPi⟩ := Cond.selects_spec wz
  have e1 := findClass_of_methodNamed hn
  have nf : NotFace Z z := notFace_of_selects wz
  obtain ⟨kr, hkr, hni⟩ := nf _ q3
  have e2 := findClass_of_methodNamed q3
  rw [hc] at e2
  have e3 : r0.cls = _ := Option.some.inj (e1.symm.trans e2)
  rw [← e3] at hkr
  have hn' : Z.methodNamed? ⟨y.cls, y.name, y.desc⟩ = some r0 := hn
  simp [Cond.before, Cond.holds, Cond.value, e1, hf, hn', hkr, hni]
end OwnFive

theorem own_hws {Z : State} {a0 : Array Value} (hw : ∀ d ∈ tables_1, d.before a0 Z = true) : ∀ d ∈ StrChars.Road.words, d.before a0 Z = true := fun d hd => hw d ((by decide +kernel : ∀ d ∈ StrChars.Road.words, d ∈ tables_1) d hd)
theorem own_n6 {n : Nat} (h : n ≤ 6) : ¬ Int32.ofNat n < 0 ∧ (Int32.ofNat n).toNatClampNeg = n ∧ (Int32.ofNat n).toInt = n := by
  have : n = 0 ∨ n = 1 ∨ n = 2 ∨ n = 3 ∨ n = 4 ∨ n = 5 ∨ n = 6 := by omega
  rcases this with rfl | rfl | rfl | rfl | rfl | rfl | rfl <;> decide
theorem own_lt6 {k n : Nat} (hk : k < n) (h : n ≤ 6) : ¬ Int32.ofNat k < 0 ∧ Int32.ofNat k < Int32.ofNat n := by
  refine ⟨(own_n6 (by omega)).1, ?_⟩
  rw [Int32.lt_iff_toInt_lt, (own_n6 (n := k) (by omega)).2.2, (own_n6 h).2.2]; omega
theorem own_succ (k : Nat) : Int32.ofNat k + (1 : Int32) = Int32.ofNat (k + 1) := (Int32.ofNat_add k 1).symm
theorem own_eq6 {k n : Nat} (hk : k ≤ 6) (hn : n ≤ 6) (h : Int32.ofNat k = Int32.ofNat n) : k = n := by
  have e := congrArg Int32.toInt h
  rw [(own_n6 hk).2.2, (own_n6 hn).2.2] at e; omega
/-- chars as the bytes of a Latin-1 array -/
def own_by (ds : List Int32) : List Value := (ds.map (fun c => c.toInt8.toInt32)).map Value.int
theorem own_by_len (ds : List Int32) : (own_by ds).length = ds.length := by simp [own_by]
theorem own_by_app (ds : List Int32) (c : Int32) : own_by (ds ++ [c]) = own_by ds ++ [.int c.toInt8.toInt32] := by simp [own_by]
theorem own_setlast (a b : Value) : ∀ (l : List Value), (l ++ [a]).set l.length b = l ++ [b]
  | [] => rfl
  | x :: l => by simp [own_setlast a b l]
/-- a Latin-1 StringBuilder of the chars ds, with room for n -/
def own_SB (Z : State) (h : Heap) (sb vb : Addr) (kb : ClassId) (ds : List Int32) (n : Nat) : Prop := Exa Z h sb "java/lang/StringBuilder" ∧ Fld Z h sb "java/lang/AbstractStringBuilder" "value" "[B" (.ref vb) ∧ Fld Z h sb "java/lang/AbstractStringBuilder" "coder" "B" (.int (0 : Int32)) ∧ Fld Z h sb "java/lang/AbstractStringBuilder" "count" "I" (.int (Int32.ofNat ds.length)) ∧ Arv Z h vb kb .byte (Int32.ofNat n) (own_by ds) (.int (0 : Int32)) ∧ Exa Z h vb "[B" ∧ (∀ c ∈ ds, ¬ c < 0 ∧ ¬ (255 : Int32) < c) ∧ ds.length ≤ n ∧ n ≤ 6
theorem own_SB.ext {Z : State} {h h' : Heap} {sb vb : Addr} {kb : ClassId} {ds : List Int32} {n : Nat} (O : own_SB Z h sb vb kb ds n) (E : Ext h h') : own_SB Z h' sb vb kb ds n := by
  obtain ⟨a, b, c, d, e, f, g⟩ := O; exact ⟨a.ext E, b.ext E, c.ext E, d.ext E, e.ext E, f.ext E, g⟩
theorem own_bnd {ds : List Int32} {c : Int32} (h : ∀ c ∈ ds, ¬ c < 0 ∧ ¬ (255 : Int32) < c) (hc : ¬ c < 0 ∧ ¬ (255 : Int32) < c) : ∀ x ∈ ds ++ [c], ¬ x < 0 ∧ ¬ (255 : Int32) < x := by
  intro x hx
  rcases List.mem_append.mp hx with q | q
  · exact h x q
  · rw [List.mem_singleton.mp q]; exact hc
theorem own_cap {k n : Nat} (hk : k < n) (h : n ≤ 6) : ¬ ((0 : Int32) < ((Int32.ofNat k + (1 : Int32)) - (Int32.ofNat n >>> ((0 : Int32) &&& 31)))) := by
  have h1 : n = 1 ∨ n = 2 ∨ n = 3 ∨ n = 4 ∨ n = 5 ∨ n = 6 := by omega
  have h2 : k = 0 ∨ k = 1 ∨ k = 2 ∨ k = 3 ∨ k = 4 ∨ k = 5 := by omega
  rcases h1 with rfl | rfl | rfl | rfl | rfl | rfl <;> rcases h2 with rfl | rfl | rfl | rfl | rfl | rfl <;> first | omega | decide
theorem own_us {vs : List Value} {k : Nat} {d : Value} (h : vs.length = k) : vs = (List.range k).map fun i => vs.getD (0 + i) d := by
  refine List.ext_getElem (by simp [h]) fun i h1 h2 => ?_
  simp [List.getD_eq_getElem?_getD, h1]
theorem own_SB.wr {Z : State} {h h' : Heap} {sb vb a : Addr} {kb : ClassId} {ds : List Int32} {n sl : Nat} {v : Value} (O : own_SB Z h sb vb kb ds n) (W : Wr h h' a sl v) (q1 : sb ≠ a) (q2 : vb ≠ a) : own_SB Z h' sb vb kb ds n := by
  obtain ⟨a1, b, c, d, e, f, g⟩ := O; exact ⟨a1.wr W, b.other W (Or.inl q1), c.other W (Or.inl q1), d.other W (Or.inl q1), e.other W q2, f.wr W, g⟩
/-- a piece of a column: a char, or a backslash and a letter x that mean y -/
abbrev own_Tok := Int32 × Option Int32
def own_ok : own_Tok → Prop
  | (c, none) => ¬ (c = (92 : Int32)) ∧ (¬ c < 0 ∧ ¬ (255 : Int32) < c)
  | (x, some y) => (x = 92 ∧ y = 92) ∨ (x = 110 ∧ y = 10) ∨ (x = 114 ∧ y = 13) ∨ (x = 116 ∧ y = 9)
def own_srcs : List own_Tok → List Int32
  | [] => []
  | (c, none) :: r => c :: own_srcs r
  | (x, some _) :: r => (92 : Int32) :: x :: own_srcs r
def own_outs : List own_Tok → List Int32
  | [] => []
  | (c, none) :: r => c :: own_outs r
  | (_, some y) :: r => y :: own_outs r
theorem own_get0 (pre r : List Int32) (c : Int32) : (pre ++ c :: r).getD pre.length 0 = c := by simp [List.getD_eq_getElem?_getD]
theorem own_get1 (pre r : List Int32) (b c : Int32) : (pre ++ b :: c :: r).getD (pre.length + 1) 0 = c := by simp [List.getD_eq_getElem?_getD]
def own_si (u : Slot) : Prop := u = .unset ∨ ∃ z : Int32, u = .val (.int z)
theorem own_sto4 {a b c : Value} {i : Int32} {u4 u5 : Slot} (h4 : own_si u4) (h5 : own_si u5) (v : Int32) : storeLocals #[.val a, .val b, .val c, .val (.int i), u4, u5] 4 (.int v) = some #[.val a, .val b, .val c, .val (.int i), .val (.int v), u5] := by
  rcases h4 with rfl | ⟨z, rfl⟩ <;> rcases h5 with rfl | ⟨w, rfl⟩ <;> rfl
theorem own_sto5 {a b c : Value} {i x : Int32} {u5 : Slot} (h5 : own_si u5) (v : Int32) : storeLocals #[.val a, .val b, .val c, .val (.int i), .val (.int x), u5] 5 (.int v) = some #[.val a, .val b, .val c, .val (.int i), .val (.int x), .val (.int v)] := by
  rcases h5 with rfl | ⟨w, rfl⟩ <;> rfl
def own_LenQ (cs : List Int32) (h : Heap) (v : Option Value) (h' : Heap) (L : List Loc) : Prop := v = some (.int (Int32.ofNat cs.length)) ∧ L = [] ∧ h' = h
def own_ChQ (cs : List Int32) (i : Nat) (h : Heap) (v : Option Value) (h' : Heap) (L : List Loc) : Prop := v = some (.int (cs.getD i 0)) ∧ L = [] ∧ h' = h

theorem own_all0 {α : Type} {P : α → Prop} : ∀ c ∈ ([] : List α), P c := fun c hc => by cases hc
theorem own_allC {α : Type} {P : α → Prop} {a : α} {l : List α} (h : P a) (t : ∀ c ∈ l, P c) : ∀ c ∈ a :: l, P c := fun c hc => (List.mem_cons.mp hc).elim (fun e => e ▸ h) (t c)
def own_pl (b : Int32) : Int32 := if b &&& (255 : Int32) = 92 then 110 else b &&& (255 : Int32)
def own_le (k : Int32) : Int32 := if k = 0 then 92 else if k = 1 then 116 else if k = 2 then 110 else 114
def own_me (k : Int32) : Int32 := if k = 0 then 92 else if k = 1 then 9 else if k = 2 then 10 else 13
theorem own_pl_b (b : Int32) : ¬ own_pl b < 0 ∧ ¬ (255 : Int32) < own_pl b := by unfold own_pl; split <;> first | decide | exact own_mask b
theorem own_le_b (b : Int32) : ¬ own_le b < 0 ∧ ¬ (255 : Int32) < own_le b := by unfold own_le; repeat' split
                                                                                 all_goals decide
theorem own_me_b (b : Int32) : ¬ own_me b < 0 ∧ ¬ (255 : Int32) < own_me b := by unfold own_me; repeat' split
                                                                                 all_goals decide
theorem own_pl_n (b : Int32) : nar .char (own_pl b) = own_pl b := (own_char (own_pl_b b).1 (own_pl_b b).2).1
theorem own_le_n (b : Int32) : nar .char (own_le b) = own_le b := (own_char (own_le_b b).1 (own_le_b b).2).1
theorem own_me_n (b : Int32) : nar .char (own_me b) = own_me b := (own_char (own_me_b b).1 (own_me_b b).2).1
theorem own_92n : nar .char (92 : Int32) = 92 := by decide
theorem own_okp (b : Int32) : own_ok (own_pl b, none) := ⟨by unfold own_pl; split <;> first | decide | assumption, own_pl_b b⟩
theorem own_oke {t : Int32} (h : (t &&& (7 : Int32)) < (4 : Int32)) : own_ok (own_le (t &&& (7 : Int32)), some (own_me (t &&& (7 : Int32)))) := by
  generalize t &&& (7 : Int32) = k at h
  unfold own_le own_me
  show (_ ∧ _) ∨ (_ ∧ _) ∨ (_ ∧ _) ∨ (_ ∧ _)
  by_cases h0 : k = 0
  · simp [h0]
  · by_cases h1 : k = 1
    · simp [h1]
    · by_cases h2 : k = 2
      · simp [h2]
      · simp [h0, h1, h2]
theorem ow_0 {Z : State} {a0 : Array Value} (hw : ∀ d ∈ tables_1, d.before a0 Z = true) : (Jvm.Cond.stringLink "com/example/nisaba/nisaba/TsvFileUnescapePinLaw" (23 : Nat) "").before a0 Z = true := hw _ (List.mem_of_getElem? (i := 0) rfl)
theorem ow_1 {Z : State} {a0 : Array Value} (hw : ∀ d ∈ tables_1, d.before a0 Z = true) : (Jvm.Cond.initialized "java/lang/String").before a0 Z = true := hw _ (List.mem_of_getElem? (i := 1) rfl)
theorem ow_2 {Z : State} {a0 : Array Value} (hw : ∀ d ∈ tables_1, d.before a0 Z = true) : (Jvm.Cond.instantiable "java/lang/String" (4 : Nat)).before a0 Z = true := hw _ (List.mem_of_getElem? (i := 2) rfl)
theorem ow_3 {Z : State} {a0 : Array Value} (hw : ∀ d ∈ tables_1, d.before a0 Z = true) : (Jvm.Cond.arrayClass Jvm.ClassFile.FieldType.byte).before a0 Z = true := hw _ (List.mem_of_getElem? (i := 3) rfl)
theorem ow_4 {Z : State} {a0 : Array Value} (hw : ∀ d ∈ tables_1, d.before a0 Z = true) : (Jvm.Cond.laysFinal "java/lang/String" "java/lang/String" "value" "[B").before a0 Z = true := hw _ (List.mem_of_getElem? (i := 4) rfl)
theorem ow_5 {Z : State} {a0 : Array Value} (hw : ∀ d ∈ tables_1, d.before a0 Z = true) : (Jvm.Cond.laysFinal "java/lang/String" "java/lang/String" "coder" "B").before a0 Z = true := hw _ (List.mem_of_getElem? (i := 5) rfl)
theorem ow_8 {Z : State} {a0 : Array Value} (hw : ∀ d ∈ tables_1, d.before a0 Z = true) : (Jvm.Cond.stringLink "com/example/nisaba/nisaba/TsvFileUnescapePinLaw" (25 : Nat) "the column").before a0 Z = true := hw _ (List.mem_of_getElem? (i := 8) rfl)
theorem ow_9 {Z : State} {a0 : Array Value} (hw : ∀ d ∈ tables_1, d.before a0 Z = true) : (Jvm.Cond.methodLink "com/example/nisaba/nisaba/TsvFileUnescapePinLaw" (27 : Nat) ({ cls := "com/example/nisaba/nisaba/TsvFile", name := "unescape", desc := "(Ljava/lang/String;Ljava/lang/String;)Ljava/lang/String;" } : Jvm.MethodName)).before a0 Z = true := hw _ (List.mem_of_getElem? (i := 9) rfl)
theorem ow_10 {Z : State} {a0 : Array Value} (hw : ∀ d ∈ tables_1, d.before a0 Z = true) : (Jvm.Cond.static ({ cls := "com/example/nisaba/nisaba/TsvFile", name := "unescape", desc := "(Ljava/lang/String;Ljava/lang/String;)Ljava/lang/String;" } : Jvm.MethodName)).before a0 Z = true := hw _ (List.mem_of_getElem? (i := 10) rfl)
theorem ow_11 {Z : State} {a0 : Array Value} (hw : ∀ d ∈ tables_1, d.before a0 Z = true) : (Jvm.Cond.initialized "com/example/nisaba/nisaba/TsvFile").before a0 Z = true := hw _ (List.mem_of_getElem? (i := 11) rfl)
theorem ow_12 {Z : State} {a0 : Array Value} (hw : ∀ d ∈ tables_1, d.before a0 Z = true) : (Jvm.Cond.code ({ cls := "com/example/nisaba/nisaba/TsvFile", name := "unescape", desc := "(Ljava/lang/String;Ljava/lang/String;)Ljava/lang/String;" } : Jvm.MethodName) prog_22_method_4_code (6 : Nat) (Option.some (Jvm.ClassFile.FieldType.object "java/lang/String"))).before a0 Z = true := hw _ (List.mem_of_getElem? (i := 12) rfl)
theorem ow_13 {Z : State} {a0 : Array Value} (hw : ∀ d ∈ tables_1, d.before a0 Z = true) : (Jvm.Cond.classLink "com/example/nisaba/nisaba/TsvFile" (83 : Nat) "java/lang/StringBuilder").before a0 Z = true := hw _ (List.mem_of_getElem? (i := 13) rfl)
theorem ow_14 {Z : State} {a0 : Array Value} (hw : ∀ d ∈ tables_1, d.before a0 Z = true) : (Jvm.Cond.instantiable "java/lang/StringBuilder" (4 : Nat)).before a0 Z = true := hw _ (List.mem_of_getElem? (i := 14) rfl)
theorem ow_15 {Z : State} {a0 : Array Value} (hw : ∀ d ∈ tables_1, d.before a0 Z = true) : (Jvm.Cond.initialized "java/lang/StringBuilder").before a0 Z = true := hw _ (List.mem_of_getElem? (i := 15) rfl)
theorem ow_16 {Z : State} {a0 : Array Value} (hw : ∀ d ∈ tables_1, d.before a0 Z = true) : (Jvm.Cond.methodLink "com/example/nisaba/nisaba/TsvFile" (85 : Nat) ({ cls := "java/lang/String", name := "length", desc := "()I" } : Jvm.MethodName)).before a0 Z = true := hw _ (List.mem_of_getElem? (i := 16) rfl)
theorem ow_17 {Z : State} {a0 : Array Value} (hw : ∀ d ∈ tables_1, d.before a0 Z = true) : (Jvm.Cond.declares ({ cls := "java/lang/String", name := "length", desc := "()I" } : Jvm.MethodName)).before a0 Z = true := hw _ (List.mem_of_getElem? (i := 17) rfl)
theorem ow_18 {Z : State} {a0 : Array Value} (hw : ∀ d ∈ tables_1, d.before a0 Z = true) : (Jvm.Cond.instanceMethod ({ cls := "java/lang/String", name := "length", desc := "()I" } : Jvm.MethodName)).before a0 Z = true := hw _ (List.mem_of_getElem? (i := 18) rfl)
theorem ow_19 {Z : State} {a0 : Array Value} (hw : ∀ d ∈ tables_1, d.before a0 Z = true) : (Jvm.Cond.selects "java/lang/String" ({ cls := "java/lang/String", name := "length", desc := "()I" } : Jvm.MethodName) ({ cls := "java/lang/String", name := "length", desc := "()I" } : Jvm.MethodName)).before a0 Z = true := hw _ (List.mem_of_getElem? (i := 19) rfl)
theorem ow_21 {Z : State} {a0 : Array Value} (hw : ∀ d ∈ tables_1, d.before a0 Z = true) : (Jvm.Cond.fieldLink "java/lang/String" (9 : Nat) "java/lang/String" "value" "[B").before a0 Z = true := hw _ (List.mem_of_getElem? (i := 21) rfl)
theorem ow_27 {Z : State} {a0 : Array Value} (hw : ∀ d ∈ tables_1, d.before a0 Z = true) : (Jvm.Cond.fieldLink "java/lang/String" (38 : Nat) "java/lang/String" "COMPACT_STRINGS" "Z").before a0 Z = true := hw _ (List.mem_of_getElem? (i := 27) rfl)
theorem ow_28 {Z : State} {a0 : Array Value} (hw : ∀ d ∈ tables_1, d.before a0 Z = true) : (Jvm.Cond.fieldLink "java/lang/String" (15 : Nat) "java/lang/String" "coder" "B").before a0 Z = true := hw _ (List.mem_of_getElem? (i := 28) rfl)
theorem ow_29 {Z : State} {a0 : Array Value} (hw : ∀ d ∈ tables_1, d.before a0 Z = true) : (Jvm.Cond.methodLink "com/example/nisaba/nisaba/TsvFile" (88 : Nat) ({ cls := "java/lang/StringBuilder", name := "<init>", desc := "(I)V" } : Jvm.MethodName)).before a0 Z = true := hw _ (List.mem_of_getElem? (i := 29) rfl)
theorem ow_30 {Z : State} {a0 : Array Value} (hw : ∀ d ∈ tables_1, d.before a0 Z = true) : (Jvm.Cond.instanceMethod ({ cls := "java/lang/StringBuilder", name := "<init>", desc := "(I)V" } : Jvm.MethodName)).before a0 Z = true := hw _ (List.mem_of_getElem? (i := 30) rfl)
theorem ow_31 {Z : State} {a0 : Array Value} (hw : ∀ d ∈ tables_1, d.before a0 Z = true) : (Jvm.Cond.code ({ cls := "java/lang/StringBuilder", name := "<init>", desc := "(I)V" } : Jvm.MethodName) jdk_67_method_2_code (2 : Nat) (Option.none : Option Jvm.ClassFile.FieldType)).before a0 Z = true := hw _ (List.mem_of_getElem? (i := 31) rfl)
theorem ow_32 {Z : State} {a0 : Array Value} (hw : ∀ d ∈ tables_1, d.before a0 Z = true) : (Jvm.Cond.methodLink "java/lang/StringBuilder" (1 : Nat) ({ cls := "java/lang/AbstractStringBuilder", name := "<init>", desc := "(I)V" } : Jvm.MethodName)).before a0 Z = true := hw _ (List.mem_of_getElem? (i := 32) rfl)
theorem ow_33 {Z : State} {a0 : Array Value} (hw : ∀ d ∈ tables_1, d.before a0 Z = true) : (Jvm.Cond.instanceMethod ({ cls := "java/lang/AbstractStringBuilder", name := "<init>", desc := "(I)V" } : Jvm.MethodName)).before a0 Z = true := hw _ (List.mem_of_getElem? (i := 33) rfl)
theorem ow_36 {Z : State} {a0 : Array Value} (hw : ∀ d ∈ tables_1, d.before a0 Z = true) : (Jvm.Cond.initialized "java/lang/AbstractStringBuilder").before a0 Z = true := hw _ (List.mem_of_getElem? (i := 36) rfl)
theorem ow_37 {Z : State} {a0 : Array Value} (hw : ∀ d ∈ tables_1, d.before a0 Z = true) : (Jvm.Cond.code ({ cls := "java/lang/AbstractStringBuilder", name := "<init>", desc := "(I)V" } : Jvm.MethodName) jdk_68_method_2_code (2 : Nat) (Option.none : Option Jvm.ClassFile.FieldType)).before a0 Z = true := hw _ (List.mem_of_getElem? (i := 37) rfl)
theorem ow_38 {Z : State} {a0 : Array Value} (hw : ∀ d ∈ tables_1, d.before a0 Z = true) : (Jvm.Cond.methodLink "java/lang/AbstractStringBuilder" (3 : Nat) ({ cls := "java/lang/Object", name := "<init>", desc := "()V" } : Jvm.MethodName)).before a0 Z = true := hw _ (List.mem_of_getElem? (i := 38) rfl)
theorem ow_39 {Z : State} {a0 : Array Value} (hw : ∀ d ∈ tables_1, d.before a0 Z = true) : (Jvm.Cond.instanceMethod ({ cls := "java/lang/Object", name := "<init>", desc := "()V" } : Jvm.MethodName)).before a0 Z = true := hw _ (List.mem_of_getElem? (i := 39) rfl)
theorem ow_40 {Z : State} {a0 : Array Value} (hw : ∀ d ∈ tables_1, d.before a0 Z = true) : (Jvm.Cond.code ({ cls := "java/lang/Object", name := "<init>", desc := "()V" } : Jvm.MethodName) object_method_1_code (1 : Nat) (Option.none : Option Jvm.ClassFile.FieldType)).before a0 Z = true := hw _ (List.mem_of_getElem? (i := 40) rfl)
theorem ow_41 {Z : State} {a0 : Array Value} (hw : ∀ d ∈ tables_1, d.before a0 Z = true) : (Jvm.Cond.fieldLink "java/lang/AbstractStringBuilder" (18 : Nat) "java/lang/String" "COMPACT_STRINGS" "Z").before a0 Z = true := hw _ (List.mem_of_getElem? (i := 41) rfl)
theorem ow_42 {Z : State} {a0 : Array Value} (hw : ∀ d ∈ tables_1, d.before a0 Z = true) : (Jvm.Cond.fieldLink "java/lang/AbstractStringBuilder" (15 : Nat) "java/lang/AbstractStringBuilder" "value" "[B").before a0 Z = true := hw _ (List.mem_of_getElem? (i := 42) rfl)
theorem ow_43 {Z : State} {a0 : Array Value} (hw : ∀ d ∈ tables_1, d.before a0 Z = true) : (Jvm.Cond.lays "java/lang/StringBuilder" "java/lang/AbstractStringBuilder" "value" "[B").before a0 Z = true := hw _ (List.mem_of_getElem? (i := 43) rfl)
theorem ow_44 {Z : State} {a0 : Array Value} (hw : ∀ d ∈ tables_1, d.before a0 Z = true) : (Jvm.Cond.fieldLink "java/lang/AbstractStringBuilder" (22 : Nat) "java/lang/AbstractStringBuilder" "coder" "B").before a0 Z = true := hw _ (List.mem_of_getElem? (i := 44) rfl)
theorem ow_45 {Z : State} {a0 : Array Value} (hw : ∀ d ∈ tables_1, d.before a0 Z = true) : (Jvm.Cond.lays "java/lang/StringBuilder" "java/lang/AbstractStringBuilder" "coder" "B").before a0 Z = true := hw _ (List.mem_of_getElem? (i := 45) rfl)
theorem ow_46 {Z : State} {a0 : Array Value} (hw : ∀ d ∈ tables_1, d.before a0 Z = true) : (Jvm.Cond.methodLink "com/example/nisaba/nisaba/TsvFile" (108 : Nat) ({ cls := "java/lang/StringBuilder", name := "toString", desc := "()Ljava/lang/String;" } : Jvm.MethodName)).before a0 Z = true := hw _ (List.mem_of_getElem? (i := 46) rfl)
theorem ow_47 {Z : State} {a0 : Array Value} (hw : ∀ d ∈ tables_1, d.before a0 Z = true) : (Jvm.Cond.declares ({ cls := "java/lang/StringBuilder", name := "toString", desc := "()Ljava/lang/String;" } : Jvm.MethodName)).before a0 Z = true := hw _ (List.mem_of_getElem? (i := 47) rfl)
theorem ow_48 {Z : State} {a0 : Array Value} (hw : ∀ d ∈ tables_1, d.before a0 Z = true) : (Jvm.Cond.instanceMethod ({ cls := "java/lang/StringBuilder", name := "toString", desc := "()Ljava/lang/String;" } : Jvm.MethodName)).before a0 Z = true := hw _ (List.mem_of_getElem? (i := 48) rfl)
theorem ow_49 {Z : State} {a0 : Array Value} (hw : ∀ d ∈ tables_1, d.before a0 Z = true) : (Jvm.Cond.selects "java/lang/StringBuilder" ({ cls := "java/lang/StringBuilder", name := "toString", desc := "()Ljava/lang/String;" } : Jvm.MethodName) ({ cls := "java/lang/StringBuilder", name := "toString", desc := "()Ljava/lang/String;" } : Jvm.MethodName)).before a0 Z = true := hw _ (List.mem_of_getElem? (i := 49) rfl)
theorem ow_50 {Z : State} {a0 : Array Value} (hw : ∀ d ∈ tables_1, d.before a0 Z = true) : (Jvm.Cond.code ({ cls := "java/lang/StringBuilder", name := "toString", desc := "()Ljava/lang/String;" } : Jvm.MethodName) jdk_67_method_42_code (1 : Nat) (Option.some (Jvm.ClassFile.FieldType.object "java/lang/String"))).before a0 Z = true := hw _ (List.mem_of_getElem? (i := 50) rfl)
theorem ow_51 {Z : State} {a0 : Array Value} (hw : ∀ d ∈ tables_1, d.before a0 Z = true) : (Jvm.Cond.classLink "java/lang/StringBuilder" (18 : Nat) "java/lang/String").before a0 Z = true := hw _ (List.mem_of_getElem? (i := 51) rfl)
theorem ow_52 {Z : State} {a0 : Array Value} (hw : ∀ d ∈ tables_1, d.before a0 Z = true) : (Jvm.Cond.methodLink "java/lang/StringBuilder" (137 : Nat) ({ cls := "java/lang/String", name := "<init>", desc := "(Ljava/lang/StringBuilder;)V" } : Jvm.MethodName)).before a0 Z = true := hw _ (List.mem_of_getElem? (i := 52) rfl)
theorem ow_53 {Z : State} {a0 : Array Value} (hw : ∀ d ∈ tables_1, d.before a0 Z = true) : (Jvm.Cond.instanceMethod ({ cls := "java/lang/String", name := "<init>", desc := "(Ljava/lang/StringBuilder;)V" } : Jvm.MethodName)).before a0 Z = true := hw _ (List.mem_of_getElem? (i := 53) rfl)
theorem ow_55 {Z : State} {a0 : Array Value} (hw : ∀ d ∈ tables_1, d.before a0 Z = true) : (Jvm.Cond.code ({ cls := "java/lang/String", name := "<init>", desc := "(Ljava/lang/StringBuilder;)V" } : Jvm.MethodName) jdk_42_method_53_code (2 : Nat) (Option.none : Option Jvm.ClassFile.FieldType)).before a0 Z = true := hw _ (List.mem_of_getElem? (i := 55) rfl)
theorem ow_56 {Z : State} {a0 : Array Value} (hw : ∀ d ∈ tables_1, d.before a0 Z = true) : (Jvm.Cond.methodLink "java/lang/String" (489 : Nat) ({ cls := "java/lang/String", name := "<init>", desc := "(Ljava/lang/AbstractStringBuilder;Ljava/lang/Void;)V" } : Jvm.MethodName)).before a0 Z = true := hw _ (List.mem_of_getElem? (i := 56) rfl)
theorem ow_57 {Z : State} {a0 : Array Value} (hw : ∀ d ∈ tables_1, d.before a0 Z = true) : (Jvm.Cond.instanceMethod ({ cls := "java/lang/String", name := "<init>", desc := "(Ljava/lang/AbstractStringBuilder;Ljava/lang/Void;)V" } : Jvm.MethodName)).before a0 Z = true := hw _ (List.mem_of_getElem? (i := 57) rfl)
theorem ow_58 {Z : State} {a0 : Array Value} (hw : ∀ d ∈ tables_1, d.before a0 Z = true) : (Jvm.Cond.code ({ cls := "java/lang/String", name := "<init>", desc := "(Ljava/lang/AbstractStringBuilder;Ljava/lang/Void;)V" } : Jvm.MethodName) jdk_42_method_150_code (5 : Nat) (Option.none : Option Jvm.ClassFile.FieldType)).before a0 Z = true := hw _ (List.mem_of_getElem? (i := 58) rfl)
theorem ow_59 {Z : State} {a0 : Array Value} (hw : ∀ d ∈ tables_1, d.before a0 Z = true) : (Jvm.Cond.methodLink "java/lang/String" (1 : Nat) ({ cls := "java/lang/Object", name := "<init>", desc := "()V" } : Jvm.MethodName)).before a0 Z = true := hw _ (List.mem_of_getElem? (i := 59) rfl)
theorem ow_60 {Z : State} {a0 : Array Value} (hw : ∀ d ∈ tables_1, d.before a0 Z = true) : (Jvm.Cond.methodLink "java/lang/String" (552 : Nat) ({ cls := "java/lang/AbstractStringBuilder", name := "getValue", desc := "()[B" } : Jvm.MethodName)).before a0 Z = true := hw _ (List.mem_of_getElem? (i := 60) rfl)
theorem ow_61 {Z : State} {a0 : Array Value} (hw : ∀ d ∈ tables_1, d.before a0 Z = true) : (Jvm.Cond.declares ({ cls := "java/lang/AbstractStringBuilder", name := "getValue", desc := "()[B" } : Jvm.MethodName)).before a0 Z = true := hw _ (List.mem_of_getElem? (i := 61) rfl)
theorem ow_62 {Z : State} {a0 : Array Value} (hw : ∀ d ∈ tables_1, d.before a0 Z = true) : (Jvm.Cond.instanceMethod ({ cls := "java/lang/AbstractStringBuilder", name := "getValue", desc := "()[B" } : Jvm.MethodName)).before a0 Z = true := hw _ (List.mem_of_getElem? (i := 62) rfl)
theorem ow_63 {Z : State} {a0 : Array Value} (hw : ∀ d ∈ tables_1, d.before a0 Z = true) : (Jvm.Cond.selects "java/lang/StringBuilder" ({ cls := "java/lang/AbstractStringBuilder", name := "getValue", desc := "()[B" } : Jvm.MethodName) ({ cls := "java/lang/AbstractStringBuilder", name := "getValue", desc := "()[B" } : Jvm.MethodName)).before a0 Z = true := hw _ (List.mem_of_getElem? (i := 63) rfl)
theorem ow_64 {Z : State} {a0 : Array Value} (hw : ∀ d ∈ tables_1, d.before a0 Z = true) : (Jvm.Cond.code ({ cls := "java/lang/AbstractStringBuilder", name := "getValue", desc := "()[B" } : Jvm.MethodName) jdk_68_method_64_code (1 : Nat) (Option.some (Jvm.ClassFile.FieldType.array Jvm.ClassFile.FieldType.byte))).before a0 Z = true := hw _ (List.mem_of_getElem? (i := 64) rfl)
theorem ow_65 {Z : State} {a0 : Array Value} (hw : ∀ d ∈ tables_1, d.before a0 Z = true) : (Jvm.Cond.methodLink "java/lang/String" (549 : Nat) ({ cls := "java/lang/AbstractStringBuilder", name := "length", desc := "()I" } : Jvm.MethodName)).before a0 Z = true := hw _ (List.mem_of_getElem? (i := 65) rfl)
theorem ow_66 {Z : State} {a0 : Array Value} (hw : ∀ d ∈ tables_1, d.before a0 Z = true) : (Jvm.Cond.declares ({ cls := "java/lang/AbstractStringBuilder", name := "length", desc := "()I" } : Jvm.MethodName)).before a0 Z = true := hw _ (List.mem_of_getElem? (i := 66) rfl)
theorem ow_67 {Z : State} {a0 : Array Value} (hw : ∀ d ∈ tables_1, d.before a0 Z = true) : (Jvm.Cond.instanceMethod ({ cls := "java/lang/AbstractStringBuilder", name := "length", desc := "()I" } : Jvm.MethodName)).before a0 Z = true := hw _ (List.mem_of_getElem? (i := 67) rfl)
theorem ow_68 {Z : State} {a0 : Array Value} (hw : ∀ d ∈ tables_1, d.before a0 Z = true) : (Jvm.Cond.selects "java/lang/StringBuilder" ({ cls := "java/lang/AbstractStringBuilder", name := "length", desc := "()I" } : Jvm.MethodName) ({ cls := "java/lang/StringBuilder", name := "length", desc := "()I" } : Jvm.MethodName)).before a0 Z = true := hw _ (List.mem_of_getElem? (i := 68) rfl)
theorem ow_69 {Z : State} {a0 : Array Value} (hw : ∀ d ∈ tables_1, d.before a0 Z = true) : (Jvm.Cond.instanceMethod ({ cls := "java/lang/StringBuilder", name := "length", desc := "()I" } : Jvm.MethodName)).before a0 Z = true := hw _ (List.mem_of_getElem? (i := 69) rfl)
theorem ow_70 {Z : State} {a0 : Array Value} (hw : ∀ d ∈ tables_1, d.before a0 Z = true) : (Jvm.Cond.code ({ cls := "java/lang/StringBuilder", name := "length", desc := "()I" } : Jvm.MethodName) jdk_67_method_93_code (1 : Nat) (Option.some Jvm.ClassFile.FieldType.int)).before a0 Z = true := hw _ (List.mem_of_getElem? (i := 70) rfl)
theorem ow_71 {Z : State} {a0 : Array Value} (hw : ∀ d ∈ tables_1, d.before a0 Z = true) : (Jvm.Cond.methodLink "java/lang/StringBuilder" (343 : Nat) ({ cls := "java/lang/AbstractStringBuilder", name := "length", desc := "()I" } : Jvm.MethodName)).before a0 Z = true := hw _ (List.mem_of_getElem? (i := 71) rfl)
theorem ow_72 {Z : State} {a0 : Array Value} (hw : ∀ d ∈ tables_1, d.before a0 Z = true) : (Jvm.Cond.superclass "java/lang/StringBuilder" "java/lang/AbstractStringBuilder").before a0 Z = true := hw _ (List.mem_of_getElem? (i := 72) rfl)
theorem ow_73 {Z : State} {a0 : Array Value} (hw : ∀ d ∈ tables_1, d.before a0 Z = true) : (Jvm.Cond.code ({ cls := "java/lang/AbstractStringBuilder", name := "length", desc := "()I" } : Jvm.MethodName) jdk_68_method_6_code (1 : Nat) (Option.some Jvm.ClassFile.FieldType.int)).before a0 Z = true := hw _ (List.mem_of_getElem? (i := 73) rfl)
theorem ow_74 {Z : State} {a0 : Array Value} (hw : ∀ d ∈ tables_1, d.before a0 Z = true) : (Jvm.Cond.fieldLink "java/lang/AbstractStringBuilder" (79 : Nat) "java/lang/AbstractStringBuilder" "count" "I").before a0 Z = true := hw _ (List.mem_of_getElem? (i := 74) rfl)
theorem ow_75 {Z : State} {a0 : Array Value} (hw : ∀ d ∈ tables_1, d.before a0 Z = true) : (Jvm.Cond.lays "java/lang/StringBuilder" "java/lang/AbstractStringBuilder" "count" "I").before a0 Z = true := hw _ (List.mem_of_getElem? (i := 75) rfl)
theorem ow_76 {Z : State} {a0 : Array Value} (hw : ∀ d ∈ tables_1, d.before a0 Z = true) : (Jvm.Cond.methodLink "java/lang/String" (1047 : Nat) ({ cls := "java/lang/AbstractStringBuilder", name := "isLatin1", desc := "()Z" } : Jvm.MethodName)).before a0 Z = true := hw _ (List.mem_of_getElem? (i := 76) rfl)
theorem ow_77 {Z : State} {a0 : Array Value} (hw : ∀ d ∈ tables_1, d.before a0 Z = true) : (Jvm.Cond.declares ({ cls := "java/lang/AbstractStringBuilder", name := "isLatin1", desc := "()Z" } : Jvm.MethodName)).before a0 Z = true := hw _ (List.mem_of_getElem? (i := 77) rfl)
theorem ow_78 {Z : State} {a0 : Array Value} (hw : ∀ d ∈ tables_1, d.before a0 Z = true) : (Jvm.Cond.instanceMethod ({ cls := "java/lang/AbstractStringBuilder", name := "isLatin1", desc := "()Z" } : Jvm.MethodName)).before a0 Z = true := hw _ (List.mem_of_getElem? (i := 78) rfl)
theorem ow_79 {Z : State} {a0 : Array Value} (hw : ∀ d ∈ tables_1, d.before a0 Z = true) : (Jvm.Cond.selects "java/lang/StringBuilder" ({ cls := "java/lang/AbstractStringBuilder", name := "isLatin1", desc := "()Z" } : Jvm.MethodName) ({ cls := "java/lang/AbstractStringBuilder", name := "isLatin1", desc := "()Z" } : Jvm.MethodName)).before a0 Z = true := hw _ (List.mem_of_getElem? (i := 79) rfl)
theorem ow_80 {Z : State} {a0 : Array Value} (hw : ∀ d ∈ tables_1, d.before a0 Z = true) : (Jvm.Cond.code ({ cls := "java/lang/AbstractStringBuilder", name := "isLatin1", desc := "()Z" } : Jvm.MethodName) jdk_68_method_68_code (1 : Nat) (Option.some Jvm.ClassFile.FieldType.boolean)).before a0 Z = true := hw _ (List.mem_of_getElem? (i := 80) rfl)
theorem ow_81 {Z : State} {a0 : Array Value} (hw : ∀ d ∈ tables_1, d.before a0 Z = true) : (Jvm.Cond.methodLink "java/lang/String" (54 : Nat) ({ cls := "java/util/Arrays", name := "copyOfRange", desc := "([BII)[B" } : Jvm.MethodName)).before a0 Z = true := hw _ (List.mem_of_getElem? (i := 81) rfl)
theorem ow_82 {Z : State} {a0 : Array Value} (hw : ∀ d ∈ tables_1, d.before a0 Z = true) : (Jvm.Cond.static ({ cls := "java/util/Arrays", name := "copyOfRange", desc := "([BII)[B" } : Jvm.MethodName)).before a0 Z = true := hw _ (List.mem_of_getElem? (i := 82) rfl)
theorem ow_83 {Z : State} {a0 : Array Value} (hw : ∀ d ∈ tables_1, d.before a0 Z = true) : (Jvm.Cond.initialized "java/util/Arrays").before a0 Z = true := hw _ (List.mem_of_getElem? (i := 83) rfl)
theorem ow_84 {Z : State} {a0 : Array Value} (hw : ∀ d ∈ tables_1, d.before a0 Z = true) : (Jvm.Cond.code ({ cls := "java/util/Arrays", name := "copyOfRange", desc := "([BII)[B" } : Jvm.MethodName) jdk_65_method_132_code (3 : Nat) (Option.some (Jvm.ClassFile.FieldType.array Jvm.ClassFile.FieldType.byte))).before a0 Z = true := hw _ (List.mem_of_getElem? (i := 84) rfl)
theorem ow_85 {Z : State} {a0 : Array Value} (hw : ∀ d ∈ tables_1, d.before a0 Z = true) : (Jvm.Cond.methodLink "java/util/Arrays" (310 : Nat) ({ cls := "[B", name := "clone", desc := "()Ljava/lang/Object;" } : Jvm.MethodName)).before a0 Z = true := hw _ (List.mem_of_getElem? (i := 85) rfl)
theorem ow_86 {Z : State} {a0 : Array Value} (hw : ∀ d ∈ tables_1, d.before a0 Z = true) : (Jvm.Cond.sameMethod "[B" "java/lang/Object" "clone" "()Ljava/lang/Object;").before a0 Z = true := hw _ (List.mem_of_getElem? (i := 86) rfl)
theorem ow_88 {Z : State} {a0 : Array Value} (hw : ∀ d ∈ tables_1, d.before a0 Z = true) : (Jvm.Cond.instanceMethod ({ cls := "java/lang/Object", name := "clone", desc := "()Ljava/lang/Object;" } : Jvm.MethodName)).before a0 Z = true := hw _ (List.mem_of_getElem? (i := 88) rfl)
theorem ow_89 {Z : State} {a0 : Array Value} (hw : ∀ d ∈ tables_1, d.before a0 Z = true) : (Jvm.Cond.selects "[B" ({ cls := "[B", name := "clone", desc := "()Ljava/lang/Object;" } : Jvm.MethodName) ({ cls := "java/lang/Object", name := "clone", desc := "()Ljava/lang/Object;" } : Jvm.MethodName)).before a0 Z = true := hw _ (List.mem_of_getElem? (i := 89) rfl)
theorem ow_90 {Z : State} {a0 : Array Value} (hw : ∀ d ∈ tables_1, d.before a0 Z = true) : (Jvm.Cond.native ({ cls := "java/lang/Object", name := "clone", desc := "()Ljava/lang/Object;" } : Jvm.MethodName)).before a0 Z = true := hw _ (List.mem_of_getElem? (i := 90) rfl)
theorem ow_91 {Z : State} {a0 : Array Value} (hw : ∀ d ∈ tables_1, d.before a0 Z = true) : (Jvm.Cond.castable "[B" "java/lang/Cloneable").before a0 Z = true := hw _ (List.mem_of_getElem? (i := 91) rfl)
theorem ow_92 {Z : State} {a0 : Array Value} (hw : ∀ d ∈ tables_1, d.before a0 Z = true) : (Jvm.Cond.classLink "java/util/Arrays" (311 : Nat) "[B").before a0 Z = true := hw _ (List.mem_of_getElem? (i := 92) rfl)
theorem ow_94 {Z : State} {a0 : Array Value} (hw : ∀ d ∈ tables_1, d.before a0 Z = true) : (Jvm.Cond.methodLink "com/example/nisaba/nisaba/TsvFileUnescapePinLaw" (33 : Nat) ({ cls := "java/lang/String", name := "equals", desc := "(Ljava/lang/Object;)Z" } : Jvm.MethodName)).before a0 Z = true := hw _ (List.mem_of_getElem? (i := 94) rfl)
theorem ow_95 {Z : State} {a0 : Array Value} (hw : ∀ d ∈ tables_1, d.before a0 Z = true) : (Jvm.Cond.declares ({ cls := "java/lang/String", name := "equals", desc := "(Ljava/lang/Object;)Z" } : Jvm.MethodName)).before a0 Z = true := hw _ (List.mem_of_getElem? (i := 95) rfl)
theorem ow_96 {Z : State} {a0 : Array Value} (hw : ∀ d ∈ tables_1, d.before a0 Z = true) : (Jvm.Cond.instanceMethod ({ cls := "java/lang/String", name := "equals", desc := "(Ljava/lang/Object;)Z" } : Jvm.MethodName)).before a0 Z = true := hw _ (List.mem_of_getElem? (i := 96) rfl)
theorem ow_97 {Z : State} {a0 : Array Value} (hw : ∀ d ∈ tables_1, d.before a0 Z = true) : (Jvm.Cond.selects "java/lang/String" ({ cls := "java/lang/String", name := "equals", desc := "(Ljava/lang/Object;)Z" } : Jvm.MethodName) ({ cls := "java/lang/String", name := "equals", desc := "(Ljava/lang/Object;)Z" } : Jvm.MethodName)).before a0 Z = true := hw _ (List.mem_of_getElem? (i := 97) rfl)
theorem ow_99 {Z : State} {a0 : Array Value} (hw : ∀ d ∈ tables_1, d.before a0 Z = true) : (Jvm.Cond.classLink "java/lang/String" (10 : Nat) "java/lang/String").before a0 Z = true := hw _ (List.mem_of_getElem? (i := 99) rfl)
theorem ow_102 {Z : State} {a0 : Array Value} (hw : ∀ d ∈ tables_1, d.before a0 Z = true) : (Jvm.Cond.initialized "java/lang/StringLatin1").before a0 Z = true := hw _ (List.mem_of_getElem? (i := 102) rfl)
theorem ow_104 {Z : State} {a0 : Array Value} (hw : ∀ d ∈ tables_1, d.before a0 Z = true) : (Jvm.Cond.arrayClass Jvm.ClassFile.FieldType.char).before a0 Z = true := hw _ (List.mem_of_getElem? (i := 104) rfl)
theorem ow_105 {Z : State} {a0 : Array Value} (hw : ∀ d ∈ tables_1, d.before a0 Z = true) : (Jvm.Cond.methodLink "com/example/nisaba/nisaba/TsvFileUnescapePinLaw" (43 : Nat) ({ cls := "com/example/nisaba/nisaba/TsvFileUnescapePinLaw", name := "put", desc := "([CII)I" } : Jvm.MethodName)).before a0 Z = true := hw _ (List.mem_of_getElem? (i := 105) rfl)
theorem ow_106 {Z : State} {a0 : Array Value} (hw : ∀ d ∈ tables_1, d.before a0 Z = true) : (Jvm.Cond.static ({ cls := "com/example/nisaba/nisaba/TsvFileUnescapePinLaw", name := "put", desc := "([CII)I" } : Jvm.MethodName)).before a0 Z = true := hw _ (List.mem_of_getElem? (i := 106) rfl)
theorem ow_107 {Z : State} {a0 : Array Value} (hw : ∀ d ∈ tables_1, d.before a0 Z = true) : (Jvm.Cond.initialized "com/example/nisaba/nisaba/TsvFileUnescapePinLaw").before a0 Z = true := hw _ (List.mem_of_getElem? (i := 107) rfl)
theorem ow_108 {Z : State} {a0 : Array Value} (hw : ∀ d ∈ tables_1, d.before a0 Z = true) : (Jvm.Cond.code ({ cls := "com/example/nisaba/nisaba/TsvFileUnescapePinLaw", name := "put", desc := "([CII)I" } : Jvm.MethodName) method_6_code (3 : Nat) (Option.some Jvm.ClassFile.FieldType.int)).before a0 Z = true := hw _ (List.mem_of_getElem? (i := 108) rfl)
theorem ow_109 {Z : State} {a0 : Array Value} (hw : ∀ d ∈ tables_1, d.before a0 Z = true) : (Jvm.Cond.methodLink "com/example/nisaba/nisaba/TsvFileUnescapePinLaw" (7 : Nat) ({ cls := "com/example/nisaba/nisaba/TsvFileUnescapePinLaw", name := "isEscape", desc := "(I)Z" } : Jvm.MethodName)).before a0 Z = true := hw _ (List.mem_of_getElem? (i := 109) rfl)
theorem ow_110 {Z : State} {a0 : Array Value} (hw : ∀ d ∈ tables_1, d.before a0 Z = true) : (Jvm.Cond.static ({ cls := "com/example/nisaba/nisaba/TsvFileUnescapePinLaw", name := "isEscape", desc := "(I)Z" } : Jvm.MethodName)).before a0 Z = true := hw _ (List.mem_of_getElem? (i := 110) rfl)
theorem ow_111 {Z : State} {a0 : Array Value} (hw : ∀ d ∈ tables_1, d.before a0 Z = true) : (Jvm.Cond.code ({ cls := "com/example/nisaba/nisaba/TsvFileUnescapePinLaw", name := "isEscape", desc := "(I)Z" } : Jvm.MethodName) method_3_code (1 : Nat) (Option.some Jvm.ClassFile.FieldType.boolean)).before a0 Z = true := hw _ (List.mem_of_getElem? (i := 111) rfl)
theorem ow_112 {Z : State} {a0 : Array Value} (hw : ∀ d ∈ tables_1, d.before a0 Z = true) : (Jvm.Cond.methodLink "com/example/nisaba/nisaba/TsvFileUnescapePinLaw" (13 : Nat) ({ cls := "com/example/nisaba/nisaba/TsvFileUnescapePinLaw", name := "letter", desc := "(I)C" } : Jvm.MethodName)).before a0 Z = true := hw _ (List.mem_of_getElem? (i := 112) rfl)
theorem ow_113 {Z : State} {a0 : Array Value} (hw : ∀ d ∈ tables_1, d.before a0 Z = true) : (Jvm.Cond.static ({ cls := "com/example/nisaba/nisaba/TsvFileUnescapePinLaw", name := "letter", desc := "(I)C" } : Jvm.MethodName)).before a0 Z = true := hw _ (List.mem_of_getElem? (i := 113) rfl)
theorem ow_114 {Z : State} {a0 : Array Value} (hw : ∀ d ∈ tables_1, d.before a0 Z = true) : (Jvm.Cond.code ({ cls := "com/example/nisaba/nisaba/TsvFileUnescapePinLaw", name := "letter", desc := "(I)C" } : Jvm.MethodName) method_4_code (1 : Nat) (Option.some Jvm.ClassFile.FieldType.char)).before a0 Z = true := hw _ (List.mem_of_getElem? (i := 114) rfl)
theorem ow_115 {Z : State} {a0 : Array Value} (hw : ∀ d ∈ tables_1, d.before a0 Z = true) : (Jvm.Cond.methodLink "com/example/nisaba/nisaba/TsvFileUnescapePinLaw" (17 : Nat) ({ cls := "com/example/nisaba/nisaba/TsvFileUnescapePinLaw", name := "plain", desc := "(I)C" } : Jvm.MethodName)).before a0 Z = true := hw _ (List.mem_of_getElem? (i := 115) rfl)
theorem ow_116 {Z : State} {a0 : Array Value} (hw : ∀ d ∈ tables_1, d.before a0 Z = true) : (Jvm.Cond.static ({ cls := "com/example/nisaba/nisaba/TsvFileUnescapePinLaw", name := "plain", desc := "(I)C" } : Jvm.MethodName)).before a0 Z = true := hw _ (List.mem_of_getElem? (i := 116) rfl)
theorem ow_117 {Z : State} {a0 : Array Value} (hw : ∀ d ∈ tables_1, d.before a0 Z = true) : (Jvm.Cond.code ({ cls := "com/example/nisaba/nisaba/TsvFileUnescapePinLaw", name := "plain", desc := "(I)C" } : Jvm.MethodName) method_2_code (2 : Nat) (Option.some Jvm.ClassFile.FieldType.char)).before a0 Z = true := hw _ (List.mem_of_getElem? (i := 117) rfl)
theorem ow_118 {Z : State} {a0 : Array Value} (hw : ∀ d ∈ tables_1, d.before a0 Z = true) : (Jvm.Cond.classLink "com/example/nisaba/nisaba/TsvFileUnescapePinLaw" (34 : Nat) "java/lang/String").before a0 Z = true := hw _ (List.mem_of_getElem? (i := 118) rfl)
theorem ow_119 {Z : State} {a0 : Array Value} (hw : ∀ d ∈ tables_1, d.before a0 Z = true) : (Jvm.Cond.methodLink "com/example/nisaba/nisaba/TsvFileUnescapePinLaw" (47 : Nat) ({ cls := "java/lang/String", name := "<init>", desc := "([C)V" } : Jvm.MethodName)).before a0 Z = true := hw _ (List.mem_of_getElem? (i := 119) rfl)
theorem ow_120 {Z : State} {a0 : Array Value} (hw : ∀ d ∈ tables_1, d.before a0 Z = true) : (Jvm.Cond.instanceMethod ({ cls := "java/lang/String", name := "<init>", desc := "([C)V" } : Jvm.MethodName)).before a0 Z = true := hw _ (List.mem_of_getElem? (i := 120) rfl)
theorem ow_121 {Z : State} {a0 : Array Value} (hw : ∀ d ∈ tables_1, d.before a0 Z = true) : (Jvm.Cond.code ({ cls := "java/lang/String", name := "<init>", desc := "([C)V" } : Jvm.MethodName) jdk_42_method_3_code (2 : Nat) (Option.none : Option Jvm.ClassFile.FieldType)).before a0 Z = true := hw _ (List.mem_of_getElem? (i := 121) rfl)
theorem ow_135 {Z : State} {a0 : Array Value} (hw : ∀ d ∈ tables_1, d.before a0 Z = true) : (Jvm.Cond.methodLink "com/example/nisaba/nisaba/TsvFile" (112 : Nat) ({ cls := "java/lang/String", name := "charAt", desc := "(I)C" } : Jvm.MethodName)).before a0 Z = true := hw _ (List.mem_of_getElem? (i := 135) rfl)
theorem ow_136 {Z : State} {a0 : Array Value} (hw : ∀ d ∈ tables_1, d.before a0 Z = true) : (Jvm.Cond.declares ({ cls := "java/lang/String", name := "charAt", desc := "(I)C" } : Jvm.MethodName)).before a0 Z = true := hw _ (List.mem_of_getElem? (i := 136) rfl)
theorem ow_137 {Z : State} {a0 : Array Value} (hw : ∀ d ∈ tables_1, d.before a0 Z = true) : (Jvm.Cond.instanceMethod ({ cls := "java/lang/String", name := "charAt", desc := "(I)C" } : Jvm.MethodName)).before a0 Z = true := hw _ (List.mem_of_getElem? (i := 137) rfl)
theorem ow_138 {Z : State} {a0 : Array Value} (hw : ∀ d ∈ tables_1, d.before a0 Z = true) : (Jvm.Cond.selects "java/lang/String" ({ cls := "java/lang/String", name := "charAt", desc := "(I)C" } : Jvm.MethodName) ({ cls := "java/lang/String", name := "charAt", desc := "(I)C" } : Jvm.MethodName)).before a0 Z = true := hw _ (List.mem_of_getElem? (i := 138) rfl)
theorem ow_156 {Z : State} {a0 : Array Value} (hw : ∀ d ∈ tables_1, d.before a0 Z = true) : (Jvm.Cond.methodLink "com/example/nisaba/nisaba/TsvFile" (105 : Nat) ({ cls := "java/lang/StringBuilder", name := "append", desc := "(C)Ljava/lang/StringBuilder;" } : Jvm.MethodName)).before a0 Z = true := hw _ (List.mem_of_getElem? (i := 156) rfl)
theorem ow_157 {Z : State} {a0 : Array Value} (hw : ∀ d ∈ tables_1, d.before a0 Z = true) : (Jvm.Cond.declares ({ cls := "java/lang/StringBuilder", name := "append", desc := "(C)Ljava/lang/StringBuilder;" } : Jvm.MethodName)).before a0 Z = true := hw _ (List.mem_of_getElem? (i := 157) rfl)
theorem ow_158 {Z : State} {a0 : Array Value} (hw : ∀ d ∈ tables_1, d.before a0 Z = true) : (Jvm.Cond.instanceMethod ({ cls := "java/lang/StringBuilder", name := "append", desc := "(C)Ljava/lang/StringBuilder;" } : Jvm.MethodName)).before a0 Z = true := hw _ (List.mem_of_getElem? (i := 158) rfl)
theorem ow_159 {Z : State} {a0 : Array Value} (hw : ∀ d ∈ tables_1, d.before a0 Z = true) : (Jvm.Cond.selects "java/lang/StringBuilder" ({ cls := "java/lang/StringBuilder", name := "append", desc := "(C)Ljava/lang/StringBuilder;" } : Jvm.MethodName) ({ cls := "java/lang/StringBuilder", name := "append", desc := "(C)Ljava/lang/StringBuilder;" } : Jvm.MethodName)).before a0 Z = true := hw _ (List.mem_of_getElem? (i := 159) rfl)
theorem ow_160 {Z : State} {a0 : Array Value} (hw : ∀ d ∈ tables_1, d.before a0 Z = true) : (Jvm.Cond.code ({ cls := "java/lang/StringBuilder", name := "append", desc := "(C)Ljava/lang/StringBuilder;" } : Jvm.MethodName) jdk_67_method_14_code (2 : Nat) (Option.some (Jvm.ClassFile.FieldType.object "java/lang/StringBuilder"))).before a0 Z = true := hw _ (List.mem_of_getElem? (i := 160) rfl)
theorem ow_161 {Z : State} {a0 : Array Value} (hw : ∀ d ∈ tables_1, d.before a0 Z = true) : (Jvm.Cond.methodLink "java/lang/StringBuilder" (50 : Nat) ({ cls := "java/lang/AbstractStringBuilder", name := "append", desc := "(C)Ljava/lang/AbstractStringBuilder;" } : Jvm.MethodName)).before a0 Z = true := hw _ (List.mem_of_getElem? (i := 161) rfl)
theorem ow_162 {Z : State} {a0 : Array Value} (hw : ∀ d ∈ tables_1, d.before a0 Z = true) : (Jvm.Cond.instanceMethod ({ cls := "java/lang/AbstractStringBuilder", name := "append", desc := "(C)Ljava/lang/AbstractStringBuilder;" } : Jvm.MethodName)).before a0 Z = true := hw _ (List.mem_of_getElem? (i := 162) rfl)
theorem ow_163 {Z : State} {a0 : Array Value} (hw : ∀ d ∈ tables_1, d.before a0 Z = true) : (Jvm.Cond.declares ({ cls := "java/lang/AbstractStringBuilder", name := "append", desc := "(C)Ljava/lang/AbstractStringBuilder;" } : Jvm.MethodName)).before a0 Z = true := hw _ (List.mem_of_getElem? (i := 163) rfl)
theorem ow_164 {Z : State} {a0 : Array Value} (hw : ∀ d ∈ tables_1, d.before a0 Z = true) : (Jvm.Cond.code ({ cls := "java/lang/AbstractStringBuilder", name := "append", desc := "(C)Ljava/lang/AbstractStringBuilder;" } : Jvm.MethodName) jdk_68_method_31_code (2 : Nat) (Option.some (Jvm.ClassFile.FieldType.object "java/lang/AbstractStringBuilder"))).before a0 Z = true := hw _ (List.mem_of_getElem? (i := 164) rfl)
theorem ow_165 {Z : State} {a0 : Array Value} (hw : ∀ d ∈ tables_1, d.before a0 Z = true) : (Jvm.Cond.methodLink "java/lang/AbstractStringBuilder" (100 : Nat) ({ cls := "java/lang/AbstractStringBuilder", name := "ensureCapacityInternal", desc := "(I)V" } : Jvm.MethodName)).before a0 Z = true := hw _ (List.mem_of_getElem? (i := 165) rfl)
theorem ow_166 {Z : State} {a0 : Array Value} (hw : ∀ d ∈ tables_1, d.before a0 Z = true) : (Jvm.Cond.instanceMethod ({ cls := "java/lang/AbstractStringBuilder", name := "ensureCapacityInternal", desc := "(I)V" } : Jvm.MethodName)).before a0 Z = true := hw _ (List.mem_of_getElem? (i := 166) rfl)
theorem ow_168 {Z : State} {a0 : Array Value} (hw : ∀ d ∈ tables_1, d.before a0 Z = true) : (Jvm.Cond.selects "java/lang/StringBuilder" ({ cls := "java/lang/AbstractStringBuilder", name := "ensureCapacityInternal", desc := "(I)V" } : Jvm.MethodName) ({ cls := "java/lang/AbstractStringBuilder", name := "ensureCapacityInternal", desc := "(I)V" } : Jvm.MethodName)).before a0 Z = true := hw _ (List.mem_of_getElem? (i := 168) rfl)
theorem ow_169 {Z : State} {a0 : Array Value} (hw : ∀ d ∈ tables_1, d.before a0 Z = true) : (Jvm.Cond.code ({ cls := "java/lang/AbstractStringBuilder", name := "ensureCapacityInternal", desc := "(I)V" } : Jvm.MethodName) jdk_68_method_9_code (3 : Nat) (Option.none : Option Jvm.ClassFile.FieldType)).before a0 Z = true := hw _ (List.mem_of_getElem? (i := 169) rfl)
theorem ow_170 {Z : State} {a0 : Array Value} (hw : ∀ d ∈ tables_1, d.before a0 Z = true) : (Jvm.Cond.methodLink "java/lang/AbstractStringBuilder" (83 : Nat) ({ cls := "java/lang/AbstractStringBuilder", name := "isLatin1", desc := "()Z" } : Jvm.MethodName)).before a0 Z = true := hw _ (List.mem_of_getElem? (i := 170) rfl)
theorem ow_171 {Z : State} {a0 : Array Value} (hw : ∀ d ∈ tables_1, d.before a0 Z = true) : (Jvm.Cond.methodLink "java/lang/AbstractStringBuilder" (191 : Nat) ({ cls := "java/lang/StringLatin1", name := "canEncode", desc := "(C)Z" } : Jvm.MethodName)).before a0 Z = true := hw _ (List.mem_of_getElem? (i := 171) rfl)
theorem ow_172 {Z : State} {a0 : Array Value} (hw : ∀ d ∈ tables_1, d.before a0 Z = true) : (Jvm.Cond.static ({ cls := "java/lang/StringLatin1", name := "canEncode", desc := "(C)Z" } : Jvm.MethodName)).before a0 Z = true := hw _ (List.mem_of_getElem? (i := 172) rfl)
theorem ow_173 {Z : State} {a0 : Array Value} (hw : ∀ d ∈ tables_1, d.before a0 Z = true) : (Jvm.Cond.code ({ cls := "java/lang/StringLatin1", name := "canEncode", desc := "(C)Z" } : Jvm.MethodName) jdk_43_method_3_code (1 : Nat) (Option.some Jvm.ClassFile.FieldType.boolean)).before a0 Z = true := hw _ (List.mem_of_getElem? (i := 173) rfl)
theorem ow_174 {Z : State} {a0 : Array Value} (hw : ∀ d ∈ tables_1, d.before a0 Z = true) : (Jvm.Cond.methodLink "java/util/Arrays" (339 : Nat) ({ cls := "java/util/Arrays", name := "copyOfRangeByte", desc := "([BII)[B" } : Jvm.MethodName)).before a0 Z = true := hw _ (List.mem_of_getElem? (i := 174) rfl)
theorem ow_175 {Z : State} {a0 : Array Value} (hw : ∀ d ∈ tables_1, d.before a0 Z = true) : (Jvm.Cond.static ({ cls := "java/util/Arrays", name := "copyOfRangeByte", desc := "([BII)[B" } : Jvm.MethodName)).before a0 Z = true := hw _ (List.mem_of_getElem? (i := 175) rfl)
theorem ow_176 {Z : State} {a0 : Array Value} (hw : ∀ d ∈ tables_1, d.before a0 Z = true) : (Jvm.Cond.code ({ cls := "java/util/Arrays", name := "copyOfRangeByte", desc := "([BII)[B" } : Jvm.MethodName) jdk_65_method_133_code (5 : Nat) (Option.some (Jvm.ClassFile.FieldType.array Jvm.ClassFile.FieldType.byte))).before a0 Z = true := hw _ (List.mem_of_getElem? (i := 176) rfl)
theorem ow_177 {Z : State} {a0 : Array Value} (hw : ∀ d ∈ tables_1, d.before a0 Z = true) : (Jvm.Cond.methodLink "java/util/Arrays" (343 : Nat) ({ cls := "java/util/Arrays", name := "checkLength", desc := "(II)V" } : Jvm.MethodName)).before a0 Z = true := hw _ (List.mem_of_getElem? (i := 177) rfl)
theorem ow_178 {Z : State} {a0 : Array Value} (hw : ∀ d ∈ tables_1, d.before a0 Z = true) : (Jvm.Cond.static ({ cls := "java/util/Arrays", name := "checkLength", desc := "(II)V" } : Jvm.MethodName)).before a0 Z = true := hw _ (List.mem_of_getElem? (i := 178) rfl)
theorem ow_179 {Z : State} {a0 : Array Value} (hw : ∀ d ∈ tables_1, d.before a0 Z = true) : (Jvm.Cond.code ({ cls := "java/util/Arrays", name := "checkLength", desc := "(II)V" } : Jvm.MethodName) jdk_65_method_131_code (2 : Nat) (Option.none : Option Jvm.ClassFile.FieldType)).before a0 Z = true := hw _ (List.mem_of_getElem? (i := 179) rfl)
theorem ow_180 {Z : State} {a0 : Array Value} (hw : ∀ d ∈ tables_1, d.before a0 Z = true) : (Jvm.Cond.methodLink "java/util/Arrays" (304 : Nat) ({ cls := "java/lang/Math", name := "min", desc := "(II)I" } : Jvm.MethodName)).before a0 Z = true := hw _ (List.mem_of_getElem? (i := 180) rfl)
theorem ow_181 {Z : State} {a0 : Array Value} (hw : ∀ d ∈ tables_1, d.before a0 Z = true) : (Jvm.Cond.static ({ cls := "java/lang/Math", name := "min", desc := "(II)I" } : Jvm.MethodName)).before a0 Z = true := hw _ (List.mem_of_getElem? (i := 181) rfl)
theorem ow_182 {Z : State} {a0 : Array Value} (hw : ∀ d ∈ tables_1, d.before a0 Z = true) : (Jvm.Cond.initialized "java/lang/Math").before a0 Z = true := hw _ (List.mem_of_getElem? (i := 182) rfl)
theorem ow_183 {Z : State} {a0 : Array Value} (hw : ∀ d ∈ tables_1, d.before a0 Z = true) : (Jvm.Cond.code ({ cls := "java/lang/Math", name := "min", desc := "(II)I" } : Jvm.MethodName) jdk_29_method_69_code (2 : Nat) (Option.some Jvm.ClassFile.FieldType.int)).before a0 Z = true := hw _ (List.mem_of_getElem? (i := 183) rfl)
theorem ow_184 {Z : State} {a0 : Array Value} (hw : ∀ d ∈ tables_1, d.before a0 Z = true) : (Jvm.Cond.methodLink "java/util/Arrays" (150 : Nat) ({ cls := "java/lang/System", name := "arraycopy", desc := "(Ljava/lang/Object;ILjava/lang/Object;II)V" } : Jvm.MethodName)).before a0 Z = true := hw _ (List.mem_of_getElem? (i := 184) rfl)
theorem ow_185 {Z : State} {a0 : Array Value} (hw : ∀ d ∈ tables_1, d.before a0 Z = true) : (Jvm.Cond.static ({ cls := "java/lang/System", name := "arraycopy", desc := "(Ljava/lang/Object;ILjava/lang/Object;II)V" } : Jvm.MethodName)).before a0 Z = true := hw _ (List.mem_of_getElem? (i := 185) rfl)
theorem ow_186 {Z : State} {a0 : Array Value} (hw : ∀ d ∈ tables_1, d.before a0 Z = true) : (Jvm.Cond.initialized "java/lang/System").before a0 Z = true := hw _ (List.mem_of_getElem? (i := 186) rfl)
theorem ow_187 {Z : State} {a0 : Array Value} (hw : ∀ d ∈ tables_1, d.before a0 Z = true) : (Jvm.Cond.native ({ cls := "java/lang/System", name := "arraycopy", desc := "(Ljava/lang/Object;ILjava/lang/Object;II)V" } : Jvm.MethodName)).before a0 Z = true := hw _ (List.mem_of_getElem? (i := 187) rfl)
theorem ow_188 {Z : State} {a0 : Array Value} (hw : ∀ d ∈ tables_1, d.before a0 Z = true) : (Jvm.Cond.methodLink "com/example/nisaba/nisaba/TsvFileUnescapePinLaw" (50 : Nat) ({ cls := "java/lang/String", name := "length", desc := "()I" } : Jvm.MethodName)).before a0 Z = true := hw _ (List.mem_of_getElem? (i := 188) rfl)
theorem ow_189 {Z : State} {a0 : Array Value} (hw : ∀ d ∈ tables_1, d.before a0 Z = true) : (Jvm.Cond.methodLink "com/example/nisaba/nisaba/TsvFileUnescapePinLaw" (54 : Nat) ({ cls := "java/lang/String", name := "charAt", desc := "(I)C" } : Jvm.MethodName)).before a0 Z = true := hw _ (List.mem_of_getElem? (i := 189) rfl)
theorem ow_190 {Z : State} {a0 : Array Value} (hw : ∀ d ∈ tables_1, d.before a0 Z = true) : (Jvm.Cond.methodLink "com/example/nisaba/nisaba/TsvFileUnescapePinLaw" (57 : Nat) ({ cls := "com/example/nisaba/nisaba/TsvFileUnescapePinLaw", name := "out", desc := "(I)C" } : Jvm.MethodName)).before a0 Z = true := hw _ (List.mem_of_getElem? (i := 190) rfl)
theorem ow_191 {Z : State} {a0 : Array Value} (hw : ∀ d ∈ tables_1, d.before a0 Z = true) : (Jvm.Cond.static ({ cls := "com/example/nisaba/nisaba/TsvFileUnescapePinLaw", name := "out", desc := "(I)C" } : Jvm.MethodName)).before a0 Z = true := hw _ (List.mem_of_getElem? (i := 191) rfl)
theorem ow_192 {Z : State} {a0 : Array Value} (hw : ∀ d ∈ tables_1, d.before a0 Z = true) : (Jvm.Cond.code ({ cls := "com/example/nisaba/nisaba/TsvFileUnescapePinLaw", name := "out", desc := "(I)C" } : Jvm.MethodName) method_7_code (1 : Nat) (Option.some Jvm.ClassFile.FieldType.char)).before a0 Z = true := hw _ (List.mem_of_getElem? (i := 192) rfl)
theorem ow_193 {Z : State} {a0 : Array Value} (hw : ∀ d ∈ tables_1, d.before a0 Z = true) : (Jvm.Cond.methodLink "com/example/nisaba/nisaba/TsvFileUnescapePinLaw" (20 : Nat) ({ cls := "com/example/nisaba/nisaba/TsvFileUnescapePinLaw", name := "meaning", desc := "(I)C" } : Jvm.MethodName)).before a0 Z = true := hw _ (List.mem_of_getElem? (i := 193) rfl)
theorem ow_194 {Z : State} {a0 : Array Value} (hw : ∀ d ∈ tables_1, d.before a0 Z = true) : (Jvm.Cond.static ({ cls := "com/example/nisaba/nisaba/TsvFileUnescapePinLaw", name := "meaning", desc := "(I)C" } : Jvm.MethodName)).before a0 Z = true := hw _ (List.mem_of_getElem? (i := 194) rfl)
theorem ow_195 {Z : State} {a0 : Array Value} (hw : ∀ d ∈ tables_1, d.before a0 Z = true) : (Jvm.Cond.code ({ cls := "com/example/nisaba/nisaba/TsvFileUnescapePinLaw", name := "meaning", desc := "(I)C" } : Jvm.MethodName) method_5_code (1 : Nat) (Option.some Jvm.ClassFile.FieldType.char)).before a0 Z = true := hw _ (List.mem_of_getElem? (i := 195) rfl)
theorem ow_196 {Z : State} {a0 : Array Value} (hw : ∀ d ∈ tables_1, d.before a0 Z = true) : (Jvm.Cond.methodLink "com/example/nisaba/nisaba/TsvFileUnescapePinLaw" (39 : Nat) ({ cls := "java/lang/String", name := "valueOf", desc := "(C)Ljava/lang/String;" } : Jvm.MethodName)).before a0 Z = true := hw _ (List.mem_of_getElem? (i := 196) rfl)
theorem ow_197 {Z : State} {a0 : Array Value} (hw : ∀ d ∈ tables_1, d.before a0 Z = true) : (Jvm.Cond.static ({ cls := "java/lang/String", name := "valueOf", desc := "(C)Ljava/lang/String;" } : Jvm.MethodName)).before a0 Z = true := hw _ (List.mem_of_getElem? (i := 197) rfl)
theorem ow_198 {Z : State} {a0 : Array Value} (hw : ∀ d ∈ tables_1, d.before a0 Z = true) : (Jvm.Cond.code ({ cls := "java/lang/String", name := "valueOf", desc := "(C)Ljava/lang/String;" } : Jvm.MethodName) jdk_42_method_139_code (1 : Nat) (Option.some (Jvm.ClassFile.FieldType.object "java/lang/String"))).before a0 Z = true := hw _ (List.mem_of_getElem? (i := 198) rfl)
theorem ow_199 {Z : State} {a0 : Array Value} (hw : ∀ d ∈ tables_1, d.before a0 Z = true) : (Jvm.Cond.methodLink "java/lang/String" (1015 : Nat) ({ cls := "java/lang/StringLatin1", name := "canEncode", desc := "(C)Z" } : Jvm.MethodName)).before a0 Z = true := hw _ (List.mem_of_getElem? (i := 199) rfl)
theorem ow_200 {Z : State} {a0 : Array Value} (hw : ∀ d ∈ tables_1, d.before a0 Z = true) : (Jvm.Cond.methodLink "java/lang/String" (1018 : Nat) ({ cls := "java/lang/StringLatin1", name := "toBytes", desc := "(C)[B" } : Jvm.MethodName)).before a0 Z = true := hw _ (List.mem_of_getElem? (i := 200) rfl)
theorem ow_201 {Z : State} {a0 : Array Value} (hw : ∀ d ∈ tables_1, d.before a0 Z = true) : (Jvm.Cond.static ({ cls := "java/lang/StringLatin1", name := "toBytes", desc := "(C)[B" } : Jvm.MethodName)).before a0 Z = true := hw _ (List.mem_of_getElem? (i := 201) rfl)
theorem ow_202 {Z : State} {a0 : Array Value} (hw : ∀ d ∈ tables_1, d.before a0 Z = true) : (Jvm.Cond.code ({ cls := "java/lang/StringLatin1", name := "toBytes", desc := "(C)[B" } : Jvm.MethodName) jdk_43_method_46_code (1 : Nat) (Option.some (Jvm.ClassFile.FieldType.array Jvm.ClassFile.FieldType.byte))).before a0 Z = true := hw _ (List.mem_of_getElem? (i := 202) rfl)
theorem ow_203 {Z : State} {a0 : Array Value} (hw : ∀ d ∈ tables_1, d.before a0 Z = true) : (Jvm.Cond.methodLink "java/lang/String" (209 : Nat) ({ cls := "java/lang/String", name := "<init>", desc := "([BB)V" } : Jvm.MethodName)).before a0 Z = true := hw _ (List.mem_of_getElem? (i := 203) rfl)
theorem ow_204 {Z : State} {a0 : Array Value} (hw : ∀ d ∈ tables_1, d.before a0 Z = true) : (Jvm.Cond.instanceMethod ({ cls := "java/lang/String", name := "<init>", desc := "([BB)V" } : Jvm.MethodName)).before a0 Z = true := hw _ (List.mem_of_getElem? (i := 204) rfl)
theorem ow_205 {Z : State} {a0 : Array Value} (hw : ∀ d ∈ tables_1, d.before a0 Z = true) : (Jvm.Cond.code ({ cls := "java/lang/String", name := "<init>", desc := "([BB)V" } : Jvm.MethodName) jdk_42_method_151_code (3 : Nat) (Option.none : Option Jvm.ClassFile.FieldType)).before a0 Z = true := hw _ (List.mem_of_getElem? (i := 205) rfl)
abbrev own_EL : List (String × Nat) := [("com/example/nisaba/nisaba/TsvFileUnescapePinLaw", 23), ("com/example/nisaba/nisaba/TsvFileUnescapePinLaw", 25)]
theorem own_ew {Z : State} {a0 : Array Value} (hw : ∀ d ∈ tables_1, d.before a0 Z = true) : EW Z a0 own_EL := (EW.cons (ow_0 hw) (by decide) (EW.cons (ow_8 hw) (by decide) EW.nil))
theorem own_ws {Z : State} {a0 : Array Value} (hw : ∀ d ∈ tables_1, d.before a0 Z = true) : ∀ a ∈ Bundle.stringAtoms, a.before a0 Z = true := fun d hd => hw d ((by decide +kernel : ∀ d ∈ Bundle.stringAtoms, d ∈ tables_1) d hd)
theorem own_hweq {Z : State} {a0 : Array Value} (hw : ∀ d ∈ tables_1, d.before a0 Z = true) : ∀ d ∈ StrChars.Road.wordsEq, d.before a0 Z = true := fun d hd => hw d ((by decide +kernel : ∀ d ∈ StrChars.Road.wordsEq, d ∈ tables_1) d hd)
def own_Nm (Z : State) (h : Heap) (a : Addr) (cs : List Int32) : Prop := own_Str Z h a cs ∧ cs.length ≤ 7
theorem own_Nm.ext {Z : State} {h h' : Heap} {a : Addr} {cs : List Int32} (O : own_Nm Z h a cs) (E : Ext h h') : own_Nm Z h' a cs := ⟨O.1.ext E, O.2⟩
theorem own_wide {c : Int32} (h : ¬ (255 : Int32) < c) : ¬ (65535 : Int32) < c := by
  rw [Int32.lt_iff_toInt_lt] at *
  have e0 : (255 : Int32).toInt = 255 := rfl
  have e1 : (65535 : Int32).toInt = 65535 := rfl
  omega
def own_EqQ (cs ds : List Int32) (h : Heap) (v : Option Value) (h' : Heap) (L : List Loc) : Prop := ((v = some (.int 1) ∧ cs = ds) ∨ (v = some (.int 0) ∧ ¬ cs = ds)) ∧ L = [] ∧ h' = h
theorem own_eqB {p : Program} {l : Launch} {e : Env} {R : Room} {s : State} {args : Array Value} {below : List Frame} {len W : Nat} {Z : State} {a0 : Array Value} {h : Heap} (hZ : Z.Warmed39 s.vm) (hw : ∀ d ∈ tables_1, d.before a0 Z = true) {x y : Addr} {cs ds : List Int32} (Sx : own_Str Z h x cs) (lx : cs.length ≤ 4000) (Sy : own_Str Z h y ds) (ly : ds.length ≤ 4000)
    {z : Int32} (S : Sta Z h "java/lang/String" "COMPACT_STRINGS" "Z" (.int z)) (hz : ¬ z = 0) (hfr : 2 ≤ R.frames) (hlo : W + 28 ≤ R.locals) :
    Back l R p e below s args (⟨"java/lang/String", "equals", "(Ljava/lang/Object;)Z"⟩ : MethodName) len W (fun P a => a = #[.ref x, .ref y] ∧ P.U.heap = h ∧ P.cells + 0 ≤ R.cells ∧ P.slots + 0 ≤ R.slots)
      (fun P _ v B => ∃ L, own_EqQ cs ds h v B.U.heap L ∧ B.locs = P.locs ++ L ∧ B.cells = P.cells + 0 ∧ B.slots = P.slots + 0) := by
  obtain ⟨A, C, hp, t, kb, V, K⟩ := Sx
  obtain ⟨A', C', hp', t', kb', V', K'⟩ := Sy
  exact StrChars.Road.eqW hZ (own_hweq hw) (ow_2 hw) A V C K (Or.inl ⟨rfl, rfl, List.map_map, fun c hc => (hp c hc).2⟩) (fun c hc => ⟨(hp c hc).1, own_wide (hp c hc).2⟩) lx A' V' C' K' (Or.inl ⟨rfl, rfl, List.map_map, fun c hc => (hp' c hc).2⟩) (fun c hc => ⟨(hp' c hc).1, own_wide (hp' c hc).2⟩) ly S hz hfr hlo
theorem own_lenB {p : Program} {l : Launch} {e : Env} {R : Room} {s : State} {args : Array Value} {below : List Frame} {len W : Nat} {Z : State} {a0 : Array Value} {h : Heap} (hZ : Z.Warmed39 s.vm) (hw : ∀ d ∈ tables_1, d.before a0 Z = true) {x : Addr} {cs : List Int32} (Sx : own_Str Z h x cs) (lx : cs.length ≤ 4000) {z : Int32} (S : Sta Z h "java/lang/String" "COMPACT_STRINGS" "Z" (.int z)) (hz : ¬ z = 0) (hfr : 2 ≤ R.frames) (hlo : W + 25 ≤ R.locals) :
    Back l R p e below s args (⟨"java/lang/String", "length", "()I"⟩ : MethodName) len W (fun P a => a = #[.ref x] ∧ P.U.heap = h ∧ P.cells + 0 ≤ R.cells ∧ P.slots + 0 ≤ R.slots)
      (fun P _ v B => ∃ L, own_LenQ cs h v B.U.heap L ∧ B.locs = P.locs ++ L ∧ B.cells = P.cells + 0 ∧ B.slots = P.slots + 0) := by
  obtain ⟨A, C, hp, t, kb, V, K⟩ := Sx
  exact StrChars.Road.lenW hZ (fun d hd => hw d ((by decide +kernel : ∀ d ∈ StrChars.Road.wordsLen, d ∈ tables_1) d hd)) (ow_2 hw) A V C K (Or.inl ⟨rfl, rfl, List.map_map, fun c hc => (hp c hc).2⟩) (fun c hc => ⟨(hp c hc).1, own_wide (hp c hc).2⟩) S hz lx hfr hlo
theorem own_chB {p : Program} {l : Launch} {e : Env} {R : Room} {s : State} {args : Array Value} {below : List Frame} {len W : Nat} {Z : State} {a0 : Array Value} {h : Heap} (hZ : Z.Warmed39 s.vm) (hw : ∀ d ∈ tables_1, d.before a0 Z = true) {x : Addr} {cs : List Int32} {i : Nat} {j : Int32} {fm : Value} (Sx : own_Str Z h x cs) (lx : cs.length ≤ 4000) {z : Int32} (S : Sta Z h "java/lang/String" "COMPACT_STRINGS" "Z" (.int z)) (hz : ¬ z = 0) (F : Sta Z h "jdk/internal/util/Preconditions" "SIOOBE_FORMATTER" "Ljava/util/function/BiFunction;" fm) (rf : fm.isRef = true) (hi : i < cs.length) (hj : j = Int32.ofNat i) (hfr : 4 ≤ R.frames) (hlo : W + 53 ≤ R.locals) :
    Back l R p e below s args (⟨"java/lang/String", "charAt", "(I)C"⟩ : MethodName) len W (fun P a => a = #[.ref x, .int j] ∧ P.U.heap = h ∧ P.cells + 0 ≤ R.cells ∧ P.slots + 0 ≤ R.slots)
      (fun P _ v B => ∃ L, own_ChQ cs i h v B.U.heap L ∧ B.locs = P.locs ++ L ∧ B.cells = P.cells + 0 ∧ B.slots = P.slots + 0) := by
  obtain ⟨A, C, hp, t, kb, V, K⟩ := Sx
  exact StrChars.Road.chN hZ (fun d hd => hw d ((by decide +kernel : ∀ d ∈ StrChars.Road.wordsChN, d ∈ tables_1) d hd)) (ow_2 hw) A V C K (Or.inl ⟨rfl, rfl, List.map_map, fun c hc => (hp c hc).2⟩) (fun c hc => ⟨(hp c hc).1, own_wide (hp c hc).2⟩) S hz F rf lx hi hj hfr hlo
theorem od_jdk_43_method_3_0 : decode jdk_43_method_3_code 0 = .ok (.iload_n 0, 1) := by decide +kernel
theorem od_jdk_43_method_3_1 : decode jdk_43_method_3_code 1 = .ok (.sipush 255, 3) := by decide +kernel
theorem od_jdk_43_method_3_4 : decode jdk_43_method_3_code 4 = .ok (.if_icmp .gt 7, 3) := by decide +kernel
theorem od_jdk_43_method_3_7 : decode jdk_43_method_3_code 7 = .ok (.iconst 1, 1) := by decide +kernel
theorem od_jdk_43_method_3_8 : decode jdk_43_method_3_code 8 = .ok (.goto 4, 3) := by decide +kernel
theorem od_jdk_43_method_3_12 : decode jdk_43_method_3_code 12 = .ok (.ireturn, 1) := by decide +kernel
theorem od_jdk_43_method_46_0 : decode jdk_43_method_46_code 0 = .ok (.iconst 1, 1) := by decide +kernel
theorem od_jdk_43_method_46_1 : decode jdk_43_method_46_code 1 = .ok (.newarray .byte, 2) := by decide +kernel
theorem od_jdk_43_method_46_3 : decode jdk_43_method_46_code 3 = .ok (.dup, 1) := by decide +kernel
theorem od_jdk_43_method_46_4 : decode jdk_43_method_46_code 4 = .ok (.iconst 0, 1) := by decide +kernel
theorem od_jdk_43_method_46_5 : decode jdk_43_method_46_code 5 = .ok (.iload_n 0, 1) := by decide +kernel
theorem od_jdk_43_method_46_6 : decode jdk_43_method_46_code 6 = .ok (.i2b, 1) := by decide +kernel
theorem od_jdk_43_method_46_7 : decode jdk_43_method_46_code 7 = .ok (.bastore, 1) := by decide +kernel
theorem od_jdk_43_method_46_8 : decode jdk_43_method_46_code 8 = .ok (.areturn, 1) := by decide +kernel
theorem od_jdk_42_method_151_0 : decode jdk_42_method_151_code 0 = .ok (.aload_n 0, 1) := by decide +kernel
theorem od_jdk_42_method_151_1 : decode jdk_42_method_151_code 1 = .ok (.invokespecial 1, 3) := by decide +kernel
theorem od_jdk_42_method_151_4 : decode jdk_42_method_151_code 4 = .ok (.aload_n 0, 1) := by decide +kernel
theorem od_jdk_42_method_151_5 : decode jdk_42_method_151_code 5 = .ok (.aload_n 1, 1) := by decide +kernel
theorem od_jdk_42_method_151_6 : decode jdk_42_method_151_code 6 = .ok (.putfield 9, 3) := by decide +kernel
theorem od_jdk_42_method_151_9 : decode jdk_42_method_151_code 9 = .ok (.aload_n 0, 1) := by decide +kernel
theorem od_jdk_42_method_151_10 : decode jdk_42_method_151_code 10 = .ok (.iload_n 2, 1) := by decide +kernel
theorem od_jdk_42_method_151_11 : decode jdk_42_method_151_code 11 = .ok (.putfield 15, 3) := by decide +kernel
theorem od_jdk_42_method_151_14 : decode jdk_42_method_151_code 14 = .ok (.return_, 1) := by decide +kernel
theorem od_jdk_42_method_139_0 : decode jdk_42_method_139_code 0 = .ok (.getstatic 38, 3) := by decide +kernel
theorem od_jdk_42_method_139_3 : decode jdk_42_method_139_code 3 = .ok (.ifCond .eq 23, 3) := by decide +kernel
theorem od_jdk_42_method_139_6 : decode jdk_42_method_139_code 6 = .ok (.iload_n 0, 1) := by decide +kernel
theorem od_jdk_42_method_139_7 : decode jdk_42_method_139_code 7 = .ok (.invokestatic 1015, 3) := by decide +kernel
theorem od_jdk_42_method_139_10 : decode jdk_42_method_139_code 10 = .ok (.ifCond .eq 16, 3) := by decide +kernel
theorem od_jdk_42_method_139_13 : decode jdk_42_method_139_code 13 = .ok (.new 10, 3) := by decide +kernel
theorem od_jdk_42_method_139_16 : decode jdk_42_method_139_code 16 = .ok (.dup, 1) := by decide +kernel
theorem od_jdk_42_method_139_17 : decode jdk_42_method_139_code 17 = .ok (.iload_n 0, 1) := by decide +kernel
theorem od_jdk_42_method_139_18 : decode jdk_42_method_139_code 18 = .ok (.invokestatic 1018, 3) := by decide +kernel
theorem od_jdk_42_method_139_21 : decode jdk_42_method_139_code 21 = .ok (.iconst 0, 1) := by decide +kernel
theorem od_jdk_42_method_139_22 : decode jdk_42_method_139_code 22 = .ok (.invokespecial 209, 3) := by decide +kernel
theorem od_jdk_42_method_139_25 : decode jdk_42_method_139_code 25 = .ok (.areturn, 1) := by decide +kernel
theorem od_jdk_68_method_9_0 : decode jdk_68_method_9_code 0 = .ok (.aload_n 0, 1) := by decide +kernel
theorem od_jdk_68_method_9_1 : decode jdk_68_method_9_code 1 = .ok (.getfield 15, 3) := by decide +kernel
theorem od_jdk_68_method_9_4 : decode jdk_68_method_9_code 4 = .ok (.arraylength, 1) := by decide +kernel
theorem od_jdk_68_method_9_5 : decode jdk_68_method_9_code 5 = .ok (.aload_n 0, 1) := by decide +kernel
theorem od_jdk_68_method_9_6 : decode jdk_68_method_9_code 6 = .ok (.getfield 22, 3) := by decide +kernel
theorem od_jdk_68_method_9_9 : decode jdk_68_method_9_code 9 = .ok (.ishr, 1) := by decide +kernel
theorem od_jdk_68_method_9_10 : decode jdk_68_method_9_code 10 = .ok (.istore_n 2, 1) := by decide +kernel
theorem od_jdk_68_method_9_11 : decode jdk_68_method_9_code 11 = .ok (.iload_n 1, 1) := by decide +kernel
theorem od_jdk_68_method_9_12 : decode jdk_68_method_9_code 12 = .ok (.iload_n 2, 1) := by decide +kernel
theorem od_jdk_68_method_9_13 : decode jdk_68_method_9_code 13 = .ok (.isub, 1) := by decide +kernel
theorem od_jdk_68_method_9_14 : decode jdk_68_method_9_code 14 = .ok (.ifCond .le 24, 3) := by decide +kernel
theorem od_jdk_68_method_9_38 : decode jdk_68_method_9_code 38 = .ok (.return_, 1) := by decide +kernel
theorem od_jdk_68_method_68_0 : decode jdk_68_method_68_code 0 = .ok (.getstatic 18, 3) := by decide +kernel
theorem od_jdk_68_method_68_3 : decode jdk_68_method_68_code 3 = .ok (.ifCond .eq 14, 3) := by decide +kernel
theorem od_jdk_68_method_68_6 : decode jdk_68_method_68_code 6 = .ok (.aload_n 0, 1) := by decide +kernel
theorem od_jdk_68_method_68_7 : decode jdk_68_method_68_code 7 = .ok (.getfield 22, 3) := by decide +kernel
theorem od_jdk_68_method_68_10 : decode jdk_68_method_68_code 10 = .ok (.ifCond .ne 7, 3) := by decide +kernel
theorem od_jdk_68_method_68_13 : decode jdk_68_method_68_code 13 = .ok (.iconst 1, 1) := by decide +kernel
theorem od_jdk_68_method_68_14 : decode jdk_68_method_68_code 14 = .ok (.goto 4, 3) := by decide +kernel
theorem od_jdk_68_method_68_18 : decode jdk_68_method_68_code 18 = .ok (.ireturn, 1) := by decide +kernel
theorem od_jdk_68_method_64_0 : decode jdk_68_method_64_code 0 = .ok (.aload_n 0, 1) := by decide +kernel
theorem od_jdk_68_method_64_1 : decode jdk_68_method_64_code 1 = .ok (.getfield 15, 3) := by decide +kernel
theorem od_jdk_68_method_64_4 : decode jdk_68_method_64_code 4 = .ok (.areturn, 1) := by decide +kernel
theorem od_jdk_68_method_6_0 : decode jdk_68_method_6_code 0 = .ok (.aload_n 0, 1) := by decide +kernel
theorem od_jdk_68_method_6_1 : decode jdk_68_method_6_code 1 = .ok (.getfield 79, 3) := by decide +kernel
theorem od_jdk_68_method_6_4 : decode jdk_68_method_6_code 4 = .ok (.ireturn, 1) := by decide +kernel
theorem od_jdk_67_method_93_0 : decode jdk_67_method_93_code 0 = .ok (.aload_n 0, 1) := by decide +kernel
theorem od_jdk_67_method_93_1 : decode jdk_67_method_93_code 1 = .ok (.invokespecial 343, 3) := by decide +kernel
theorem od_jdk_67_method_93_4 : decode jdk_67_method_93_code 4 = .ok (.ireturn, 1) := by decide +kernel
theorem od_jdk_68_method_31_0 : decode jdk_68_method_31_code 0 = .ok (.aload_n 0, 1) := by decide +kernel
theorem od_jdk_68_method_31_1 : decode jdk_68_method_31_code 1 = .ok (.aload_n 0, 1) := by decide +kernel
theorem od_jdk_68_method_31_2 : decode jdk_68_method_31_code 2 = .ok (.getfield 79, 3) := by decide +kernel
theorem od_jdk_68_method_31_5 : decode jdk_68_method_31_code 5 = .ok (.iconst 1, 1) := by decide +kernel
theorem od_jdk_68_method_31_6 : decode jdk_68_method_31_code 6 = .ok (.iadd, 1) := by decide +kernel
theorem od_jdk_68_method_31_7 : decode jdk_68_method_31_code 7 = .ok (.invokevirtual 100, 3) := by decide +kernel
theorem od_jdk_68_method_31_10 : decode jdk_68_method_31_code 10 = .ok (.aload_n 0, 1) := by decide +kernel
theorem od_jdk_68_method_31_11 : decode jdk_68_method_31_code 11 = .ok (.invokevirtual 83, 3) := by decide +kernel
theorem od_jdk_68_method_31_14 : decode jdk_68_method_31_code 14 = .ok (.ifCond .eq 31, 3) := by decide +kernel
theorem od_jdk_68_method_31_17 : decode jdk_68_method_31_code 17 = .ok (.iload_n 1, 1) := by decide +kernel
theorem od_jdk_68_method_31_18 : decode jdk_68_method_31_code 18 = .ok (.invokestatic 191, 3) := by decide +kernel
theorem od_jdk_68_method_31_21 : decode jdk_68_method_31_code 21 = .ok (.ifCond .eq 24, 3) := by decide +kernel
theorem od_jdk_68_method_31_24 : decode jdk_68_method_31_code 24 = .ok (.aload_n 0, 1) := by decide +kernel
theorem od_jdk_68_method_31_25 : decode jdk_68_method_31_code 25 = .ok (.getfield 15, 3) := by decide +kernel
theorem od_jdk_68_method_31_28 : decode jdk_68_method_31_code 28 = .ok (.aload_n 0, 1) := by decide +kernel
theorem od_jdk_68_method_31_29 : decode jdk_68_method_31_code 29 = .ok (.dup, 1) := by decide +kernel
theorem od_jdk_68_method_31_30 : decode jdk_68_method_31_code 30 = .ok (.getfield 79, 3) := by decide +kernel
theorem od_jdk_68_method_31_33 : decode jdk_68_method_31_code 33 = .ok (.dup_x1, 1) := by decide +kernel
theorem od_jdk_68_method_31_34 : decode jdk_68_method_31_code 34 = .ok (.iconst 1, 1) := by decide +kernel
theorem od_jdk_68_method_31_35 : decode jdk_68_method_31_code 35 = .ok (.iadd, 1) := by decide +kernel
theorem od_jdk_68_method_31_36 : decode jdk_68_method_31_code 36 = .ok (.putfield 79, 3) := by decide +kernel
theorem od_jdk_68_method_31_39 : decode jdk_68_method_31_code 39 = .ok (.iload_n 1, 1) := by decide +kernel
theorem od_jdk_68_method_31_40 : decode jdk_68_method_31_code 40 = .ok (.i2b, 1) := by decide +kernel
theorem od_jdk_68_method_31_41 : decode jdk_68_method_31_code 41 = .ok (.bastore, 1) := by decide +kernel
theorem od_jdk_68_method_31_42 : decode jdk_68_method_31_code 42 = .ok (.goto 33, 3) := by decide +kernel
theorem od_jdk_68_method_31_75 : decode jdk_68_method_31_code 75 = .ok (.aload_n 0, 1) := by decide +kernel
theorem od_jdk_68_method_31_76 : decode jdk_68_method_31_code 76 = .ok (.areturn, 1) := by decide +kernel
theorem od_jdk_67_method_14_0 : decode jdk_67_method_14_code 0 = .ok (.aload_n 0, 1) := by decide +kernel
theorem od_jdk_67_method_14_1 : decode jdk_67_method_14_code 1 = .ok (.iload_n 1, 1) := by decide +kernel
theorem od_jdk_67_method_14_2 : decode jdk_67_method_14_code 2 = .ok (.invokespecial 50, 3) := by decide +kernel
theorem od_jdk_67_method_14_5 : decode jdk_67_method_14_code 5 = .ok (.pop, 1) := by decide +kernel
theorem od_jdk_67_method_14_6 : decode jdk_67_method_14_code 6 = .ok (.aload_n 0, 1) := by decide +kernel
theorem od_jdk_67_method_14_7 : decode jdk_67_method_14_code 7 = .ok (.areturn, 1) := by decide +kernel
theorem od_jdk_68_method_2_0 : decode jdk_68_method_2_code 0 = .ok (.aload_n 0, 1) := by decide +kernel
theorem od_jdk_68_method_2_1 : decode jdk_68_method_2_code 1 = .ok (.invokespecial 3, 3) := by decide +kernel
theorem od_jdk_68_method_2_4 : decode jdk_68_method_2_code 4 = .ok (.getstatic 18, 3) := by decide +kernel
theorem od_jdk_68_method_2_7 : decode jdk_68_method_2_code 7 = .ok (.ifCond .eq 18, 3) := by decide +kernel
theorem od_jdk_68_method_2_10 : decode jdk_68_method_2_code 10 = .ok (.aload_n 0, 1) := by decide +kernel
theorem od_jdk_68_method_2_11 : decode jdk_68_method_2_code 11 = .ok (.iload_n 1, 1) := by decide +kernel
theorem od_jdk_68_method_2_12 : decode jdk_68_method_2_code 12 = .ok (.newarray .byte, 2) := by decide +kernel
theorem od_jdk_68_method_2_14 : decode jdk_68_method_2_code 14 = .ok (.putfield 15, 3) := by decide +kernel
theorem od_jdk_68_method_2_17 : decode jdk_68_method_2_code 17 = .ok (.aload_n 0, 1) := by decide +kernel
theorem od_jdk_68_method_2_18 : decode jdk_68_method_2_code 18 = .ok (.iconst 0, 1) := by decide +kernel
theorem od_jdk_68_method_2_19 : decode jdk_68_method_2_code 19 = .ok (.putfield 22, 3) := by decide +kernel
theorem od_jdk_68_method_2_22 : decode jdk_68_method_2_code 22 = .ok (.goto 16, 3) := by decide +kernel
theorem od_jdk_68_method_2_38 : decode jdk_68_method_2_code 38 = .ok (.return_, 1) := by decide +kernel
theorem od_jdk_67_method_2_0 : decode jdk_67_method_2_code 0 = .ok (.aload_n 0, 1) := by decide +kernel
theorem od_jdk_67_method_2_1 : decode jdk_67_method_2_code 1 = .ok (.iload_n 1, 1) := by decide +kernel
theorem od_jdk_67_method_2_2 : decode jdk_67_method_2_code 2 = .ok (.invokespecial 1, 3) := by decide +kernel
theorem od_jdk_67_method_2_5 : decode jdk_67_method_2_code 5 = .ok (.return_, 1) := by decide +kernel
theorem od_jdk_29_method_69_0 : decode jdk_29_method_69_code 0 = .ok (.iload_n 0, 1) := by decide +kernel
theorem od_jdk_29_method_69_1 : decode jdk_29_method_69_code 1 = .ok (.iload_n 1, 1) := by decide +kernel
theorem od_jdk_29_method_69_2 : decode jdk_29_method_69_code 2 = .ok (.if_icmp .gt 7, 3) := by decide +kernel
theorem od_jdk_29_method_69_9 : decode jdk_29_method_69_code 9 = .ok (.iload_n 1, 1) := by decide +kernel
theorem od_jdk_29_method_69_10 : decode jdk_29_method_69_code 10 = .ok (.ireturn, 1) := by decide +kernel
theorem od_jdk_65_method_131_0 : decode jdk_65_method_131_code 0 = .ok (.iload_n 1, 1) := by decide +kernel
theorem od_jdk_65_method_131_1 : decode jdk_65_method_131_code 1 = .ok (.iload_n 0, 1) := by decide +kernel
theorem od_jdk_65_method_131_2 : decode jdk_65_method_131_code 2 = .ok (.if_icmp .ge 35, 3) := by decide +kernel
theorem od_jdk_65_method_131_37 : decode jdk_65_method_131_code 37 = .ok (.return_, 1) := by decide +kernel
theorem od_jdk_65_method_133_0 : decode jdk_65_method_133_code 0 = .ok (.iload_n 1, 1) := by decide +kernel
theorem od_jdk_65_method_133_1 : decode jdk_65_method_133_code 1 = .ok (.iload_n 2, 1) := by decide +kernel
theorem od_jdk_65_method_133_2 : decode jdk_65_method_133_code 2 = .ok (.invokestatic 343, 3) := by decide +kernel
theorem od_jdk_65_method_133_5 : decode jdk_65_method_133_code 5 = .ok (.iload_n 2, 1) := by decide +kernel
theorem od_jdk_65_method_133_6 : decode jdk_65_method_133_code 6 = .ok (.iload_n 1, 1) := by decide +kernel
theorem od_jdk_65_method_133_7 : decode jdk_65_method_133_code 7 = .ok (.isub, 1) := by decide +kernel
theorem od_jdk_65_method_133_8 : decode jdk_65_method_133_code 8 = .ok (.istore_n 3, 1) := by decide +kernel
theorem od_jdk_65_method_133_9 : decode jdk_65_method_133_code 9 = .ok (.iload_n 3, 1) := by decide +kernel
theorem od_jdk_65_method_133_10 : decode jdk_65_method_133_code 10 = .ok (.newarray .byte, 2) := by decide +kernel
theorem od_jdk_65_method_133_12 : decode jdk_65_method_133_code 12 = .ok (.astore 4, 2) := by decide +kernel
theorem od_jdk_65_method_133_14 : decode jdk_65_method_133_code 14 = .ok (.aload_n 0, 1) := by decide +kernel
theorem od_jdk_65_method_133_15 : decode jdk_65_method_133_code 15 = .ok (.iload_n 1, 1) := by decide +kernel
theorem od_jdk_65_method_133_16 : decode jdk_65_method_133_code 16 = .ok (.aload 4, 2) := by decide +kernel
theorem od_jdk_65_method_133_18 : decode jdk_65_method_133_code 18 = .ok (.iconst 0, 1) := by decide +kernel
theorem od_jdk_65_method_133_19 : decode jdk_65_method_133_code 19 = .ok (.aload_n 0, 1) := by decide +kernel
theorem od_jdk_65_method_133_20 : decode jdk_65_method_133_code 20 = .ok (.arraylength, 1) := by decide +kernel
theorem od_jdk_65_method_133_21 : decode jdk_65_method_133_code 21 = .ok (.iload_n 1, 1) := by decide +kernel
theorem od_jdk_65_method_133_22 : decode jdk_65_method_133_code 22 = .ok (.isub, 1) := by decide +kernel
theorem od_jdk_65_method_133_23 : decode jdk_65_method_133_code 23 = .ok (.iload_n 3, 1) := by decide +kernel
theorem od_jdk_65_method_133_24 : decode jdk_65_method_133_code 24 = .ok (.invokestatic 304, 3) := by decide +kernel
theorem od_jdk_65_method_133_27 : decode jdk_65_method_133_code 27 = .ok (.invokestatic 150, 3) := by decide +kernel
theorem od_jdk_65_method_133_30 : decode jdk_65_method_133_code 30 = .ok (.aload 4, 2) := by decide +kernel
theorem od_jdk_65_method_133_32 : decode jdk_65_method_133_code 32 = .ok (.areturn, 1) := by decide +kernel
theorem od_jdk_65_method_132_0 : decode jdk_65_method_132_code 0 = .ok (.iload_n 1, 1) := by decide +kernel
theorem od_jdk_65_method_132_1 : decode jdk_65_method_132_code 1 = .ok (.ifCond .ne 9, 3) := by decide +kernel
theorem od_jdk_65_method_132_4 : decode jdk_65_method_132_code 4 = .ok (.iload_n 2, 1) := by decide +kernel
theorem od_jdk_65_method_132_5 : decode jdk_65_method_132_code 5 = .ok (.aload_n 0, 1) := by decide +kernel
theorem od_jdk_65_method_132_6 : decode jdk_65_method_132_code 6 = .ok (.arraylength, 1) := by decide +kernel
theorem od_jdk_65_method_132_7 : decode jdk_65_method_132_code 7 = .ok (.if_icmp .eq 10, 3) := by decide +kernel
theorem od_jdk_65_method_132_17 : decode jdk_65_method_132_code 17 = .ok (.aload_n 0, 1) := by decide +kernel
theorem od_jdk_65_method_132_18 : decode jdk_65_method_132_code 18 = .ok (.invokevirtual 310, 3) := by decide +kernel
theorem od_jdk_65_method_132_21 : decode jdk_65_method_132_code 21 = .ok (.checkcast 311, 3) := by decide +kernel
theorem od_jdk_65_method_132_24 : decode jdk_65_method_132_code 24 = .ok (.areturn, 1) := by decide +kernel
theorem od_jdk_65_method_132_10 : decode jdk_65_method_132_code 10 = .ok (.aload_n 0, 1) := by decide +kernel
theorem od_jdk_65_method_132_11 : decode jdk_65_method_132_code 11 = .ok (.iload_n 1, 1) := by decide +kernel
theorem od_jdk_65_method_132_12 : decode jdk_65_method_132_code 12 = .ok (.iload_n 2, 1) := by decide +kernel
theorem od_jdk_65_method_132_13 : decode jdk_65_method_132_code 13 = .ok (.invokestatic 339, 3) := by decide +kernel
theorem od_jdk_65_method_132_16 : decode jdk_65_method_132_code 16 = .ok (.areturn, 1) := by decide +kernel
theorem od_jdk_42_method_150_0 : decode jdk_42_method_150_code 0 = .ok (.aload_n 0, 1) := by decide +kernel
theorem od_jdk_42_method_150_1 : decode jdk_42_method_150_code 1 = .ok (.invokespecial 1, 3) := by decide +kernel
theorem od_jdk_42_method_150_4 : decode jdk_42_method_150_code 4 = .ok (.aload_n 1, 1) := by decide +kernel
theorem od_jdk_42_method_150_5 : decode jdk_42_method_150_code 5 = .ok (.invokevirtual 552, 3) := by decide +kernel
theorem od_jdk_42_method_150_8 : decode jdk_42_method_150_code 8 = .ok (.astore_n 3, 1) := by decide +kernel
theorem od_jdk_42_method_150_9 : decode jdk_42_method_150_code 9 = .ok (.aload_n 1, 1) := by decide +kernel
theorem od_jdk_42_method_150_10 : decode jdk_42_method_150_code 10 = .ok (.invokevirtual 549, 3) := by decide +kernel
theorem od_jdk_42_method_150_13 : decode jdk_42_method_150_code 13 = .ok (.istore 4, 2) := by decide +kernel
theorem od_jdk_42_method_150_15 : decode jdk_42_method_150_code 15 = .ok (.aload_n 1, 1) := by decide +kernel
theorem od_jdk_42_method_150_16 : decode jdk_42_method_150_code 16 = .ok (.invokevirtual 1047, 3) := by decide +kernel
theorem od_jdk_42_method_150_19 : decode jdk_42_method_150_code 19 = .ok (.ifCond .eq 22, 3) := by decide +kernel
theorem od_jdk_42_method_150_22 : decode jdk_42_method_150_code 22 = .ok (.aload_n 0, 1) := by decide +kernel
theorem od_jdk_42_method_150_23 : decode jdk_42_method_150_code 23 = .ok (.iconst 0, 1) := by decide +kernel
theorem od_jdk_42_method_150_24 : decode jdk_42_method_150_code 24 = .ok (.putfield 15, 3) := by decide +kernel
theorem od_jdk_42_method_150_27 : decode jdk_42_method_150_code 27 = .ok (.aload_n 0, 1) := by decide +kernel
theorem od_jdk_42_method_150_28 : decode jdk_42_method_150_code 28 = .ok (.aload_n 3, 1) := by decide +kernel
theorem od_jdk_42_method_150_29 : decode jdk_42_method_150_code 29 = .ok (.iconst 0, 1) := by decide +kernel
theorem od_jdk_42_method_150_30 : decode jdk_42_method_150_code 30 = .ok (.iload 4, 2) := by decide +kernel
theorem od_jdk_42_method_150_32 : decode jdk_42_method_150_code 32 = .ok (.invokestatic 54, 3) := by decide +kernel
theorem od_jdk_42_method_150_35 : decode jdk_42_method_150_code 35 = .ok (.putfield 9, 3) := by decide +kernel
theorem od_jdk_42_method_150_38 : decode jdk_42_method_150_code 38 = .ok (.goto 59, 3) := by decide +kernel
theorem od_jdk_42_method_150_97 : decode jdk_42_method_150_code 97 = .ok (.return_, 1) := by decide +kernel
theorem od_jdk_42_method_53_0 : decode jdk_42_method_53_code 0 = .ok (.aload_n 0, 1) := by decide +kernel
theorem od_jdk_42_method_53_1 : decode jdk_42_method_53_code 1 = .ok (.aload_n 1, 1) := by decide +kernel
theorem od_jdk_42_method_53_2 : decode jdk_42_method_53_code 2 = .ok (.aconst_null, 1) := by decide +kernel
theorem od_jdk_42_method_53_3 : decode jdk_42_method_53_code 3 = .ok (.invokespecial 489, 3) := by decide +kernel
theorem od_jdk_42_method_53_6 : decode jdk_42_method_53_code 6 = .ok (.return_, 1) := by decide +kernel
theorem od_jdk_67_method_42_0 : decode jdk_67_method_42_code 0 = .ok (.new 18, 3) := by decide +kernel
theorem od_jdk_67_method_42_3 : decode jdk_67_method_42_code 3 = .ok (.dup, 1) := by decide +kernel
theorem od_jdk_67_method_42_4 : decode jdk_67_method_42_code 4 = .ok (.aload_n 0, 1) := by decide +kernel
theorem od_jdk_67_method_42_5 : decode jdk_67_method_42_code 5 = .ok (.invokespecial 137, 3) := by decide +kernel
theorem od_jdk_67_method_42_8 : decode jdk_67_method_42_code 8 = .ok (.areturn, 1) := by decide +kernel
theorem od_prog_22_method_4_0 : decode prog_22_method_4_code 0 = .ok (.new 83, 3) := by decide +kernel
theorem od_prog_22_method_4_3 : decode prog_22_method_4_code 3 = .ok (.dup, 1) := by decide +kernel
theorem od_prog_22_method_4_4 : decode prog_22_method_4_code 4 = .ok (.aload_n 0, 1) := by decide +kernel
theorem od_prog_22_method_4_5 : decode prog_22_method_4_code 5 = .ok (.invokevirtual 85, 3) := by decide +kernel
theorem od_prog_22_method_4_8 : decode prog_22_method_4_code 8 = .ok (.invokespecial 88, 3) := by decide +kernel
theorem od_prog_22_method_4_11 : decode prog_22_method_4_code 11 = .ok (.astore_n 2, 1) := by decide +kernel
theorem od_prog_22_method_4_12 : decode prog_22_method_4_code 12 = .ok (.iconst 0, 1) := by decide +kernel
theorem od_prog_22_method_4_13 : decode prog_22_method_4_code 13 = .ok (.istore_n 3, 1) := by decide +kernel
theorem od_prog_22_method_4_14 : decode prog_22_method_4_code 14 = .ok (.iload_n 3, 1) := by decide +kernel
theorem od_prog_22_method_4_15 : decode prog_22_method_4_code 15 = .ok (.aload_n 0, 1) := by decide +kernel
theorem od_prog_22_method_4_16 : decode prog_22_method_4_code 16 = .ok (.invokevirtual 85, 3) := by decide +kernel
theorem od_prog_22_method_4_19 : decode prog_22_method_4_code 19 = .ok (.if_icmp .ge 155, 3) := by decide +kernel
theorem od_prog_22_method_4_174 : decode prog_22_method_4_code 174 = .ok (.aload_n 2, 1) := by decide +kernel
theorem od_prog_22_method_4_175 : decode prog_22_method_4_code 175 = .ok (.invokevirtual 108, 3) := by decide +kernel
theorem od_prog_22_method_4_178 : decode prog_22_method_4_code 178 = .ok (.areturn, 1) := by decide +kernel
theorem od_prog_22_method_4_22 : decode prog_22_method_4_code 22 = .ok (.aload_n 0, 1) := by decide +kernel
theorem od_prog_22_method_4_23 : decode prog_22_method_4_code 23 = .ok (.iload_n 3, 1) := by decide +kernel
theorem od_prog_22_method_4_24 : decode prog_22_method_4_code 24 = .ok (.invokevirtual 112, 3) := by decide +kernel
theorem od_prog_22_method_4_27 : decode prog_22_method_4_code 27 = .ok (.istore 4, 2) := by decide +kernel
theorem od_prog_22_method_4_29 : decode prog_22_method_4_code 29 = .ok (.iload 4, 2) := by decide +kernel
theorem od_prog_22_method_4_31 : decode prog_22_method_4_code 31 = .ok (.bipush 92, 2) := by decide +kernel
theorem od_prog_22_method_4_33 : decode prog_22_method_4_code 33 = .ok (.if_icmp .ne 128, 3) := by decide +kernel
theorem od_prog_22_method_4_161 : decode prog_22_method_4_code 161 = .ok (.aload_n 2, 1) := by decide +kernel
theorem od_prog_22_method_4_162 : decode prog_22_method_4_code 162 = .ok (.iload 4, 2) := by decide +kernel
theorem od_prog_22_method_4_164 : decode prog_22_method_4_code 164 = .ok (.invokevirtual 105, 3) := by decide +kernel
theorem od_prog_22_method_4_167 : decode prog_22_method_4_code 167 = .ok (.pop, 1) := by decide +kernel
theorem od_prog_22_method_4_168 : decode prog_22_method_4_code 168 = .ok (.iinc 3 1, 3) := by decide +kernel
theorem od_prog_22_method_4_171 : decode prog_22_method_4_code 171 = .ok (.goto (-157), 3) := by decide +kernel
theorem od_prog_22_method_4_36 : decode prog_22_method_4_code 36 = .ok (.iload_n 3, 1) := by decide +kernel
theorem od_prog_22_method_4_37 : decode prog_22_method_4_code 37 = .ok (.iconst 1, 1) := by decide +kernel
theorem od_prog_22_method_4_38 : decode prog_22_method_4_code 38 = .ok (.iadd, 1) := by decide +kernel
theorem od_prog_22_method_4_39 : decode prog_22_method_4_code 39 = .ok (.aload_n 0, 1) := by decide +kernel
theorem od_prog_22_method_4_40 : decode prog_22_method_4_code 40 = .ok (.invokevirtual 85, 3) := by decide +kernel
theorem od_prog_22_method_4_43 : decode prog_22_method_4_code 43 = .ok (.if_icmp .ge 14, 3) := by decide +kernel
theorem od_prog_22_method_4_46 : decode prog_22_method_4_code 46 = .ok (.aload_n 0, 1) := by decide +kernel
theorem od_prog_22_method_4_47 : decode prog_22_method_4_code 47 = .ok (.iinc 3 1, 3) := by decide +kernel
theorem od_prog_22_method_4_50 : decode prog_22_method_4_code 50 = .ok (.iload_n 3, 1) := by decide +kernel
theorem od_prog_22_method_4_51 : decode prog_22_method_4_code 51 = .ok (.invokevirtual 112, 3) := by decide +kernel
theorem od_prog_22_method_4_54 : decode prog_22_method_4_code 54 = .ok (.goto 5, 3) := by decide +kernel
theorem od_prog_22_method_4_59 : decode prog_22_method_4_code 59 = .ok (.istore 5, 2) := by decide +kernel
theorem od_prog_22_method_4_61 : decode prog_22_method_4_code 61 = .ok (.iload 5, 2) := by decide +kernel
theorem od_prog_22_method_4_63 : decode prog_22_method_4_code 63 = .ok (.lookupswitch 81 #[(92, 41), (110, 61), (114, 71), (116, 51)], 41) := by decide +kernel
theorem od_prog_22_method_4_104 : decode prog_22_method_4_code 104 = .ok (.aload_n 2, 1) := by decide +kernel
theorem od_prog_22_method_4_105 : decode prog_22_method_4_code 105 = .ok (.bipush 92, 2) := by decide +kernel
theorem od_prog_22_method_4_107 : decode prog_22_method_4_code 107 = .ok (.invokevirtual 105, 3) := by decide +kernel
theorem od_prog_22_method_4_110 : decode prog_22_method_4_code 110 = .ok (.pop, 1) := by decide +kernel
theorem od_prog_22_method_4_111 : decode prog_22_method_4_code 111 = .ok (.goto 47, 3) := by decide +kernel
theorem od_prog_22_method_4_158 : decode prog_22_method_4_code 158 = .ok (.goto 10, 3) := by decide +kernel
theorem od_prog_22_method_4_124 : decode prog_22_method_4_code 124 = .ok (.aload_n 2, 1) := by decide +kernel
theorem od_prog_22_method_4_125 : decode prog_22_method_4_code 125 = .ok (.bipush 10, 2) := by decide +kernel
theorem od_prog_22_method_4_127 : decode prog_22_method_4_code 127 = .ok (.invokevirtual 105, 3) := by decide +kernel
theorem od_prog_22_method_4_130 : decode prog_22_method_4_code 130 = .ok (.pop, 1) := by decide +kernel
theorem od_prog_22_method_4_131 : decode prog_22_method_4_code 131 = .ok (.goto 27, 3) := by decide +kernel
theorem od_prog_22_method_4_134 : decode prog_22_method_4_code 134 = .ok (.aload_n 2, 1) := by decide +kernel
theorem od_prog_22_method_4_135 : decode prog_22_method_4_code 135 = .ok (.bipush 13, 2) := by decide +kernel
theorem od_prog_22_method_4_137 : decode prog_22_method_4_code 137 = .ok (.invokevirtual 105, 3) := by decide +kernel
theorem od_prog_22_method_4_140 : decode prog_22_method_4_code 140 = .ok (.pop, 1) := by decide +kernel
theorem od_prog_22_method_4_141 : decode prog_22_method_4_code 141 = .ok (.goto 17, 3) := by decide +kernel
theorem od_prog_22_method_4_114 : decode prog_22_method_4_code 114 = .ok (.aload_n 2, 1) := by decide +kernel
theorem od_prog_22_method_4_115 : decode prog_22_method_4_code 115 = .ok (.bipush 9, 2) := by decide +kernel
theorem od_prog_22_method_4_117 : decode prog_22_method_4_code 117 = .ok (.invokevirtual 105, 3) := by decide +kernel
theorem od_prog_22_method_4_120 : decode prog_22_method_4_code 120 = .ok (.pop, 1) := by decide +kernel
theorem od_prog_22_method_4_121 : decode prog_22_method_4_code 121 = .ok (.goto 37, 3) := by decide +kernel
theorem od_method_2_0 : decode method_2_code 0 = .ok (.iload_n 0, 1) := by decide +kernel
theorem od_method_2_1 : decode method_2_code 1 = .ok (.sipush 255, 3) := by decide +kernel
theorem od_method_2_4 : decode method_2_code 4 = .ok (.iand, 1) := by decide +kernel
theorem od_method_2_5 : decode method_2_code 5 = .ok (.i2c, 1) := by decide +kernel
theorem od_method_2_6 : decode method_2_code 6 = .ok (.istore_n 1, 1) := by decide +kernel
theorem od_method_2_7 : decode method_2_code 7 = .ok (.iload_n 1, 1) := by decide +kernel
theorem od_method_2_8 : decode method_2_code 8 = .ok (.bipush 92, 2) := by decide +kernel
theorem od_method_2_10 : decode method_2_code 10 = .ok (.if_icmp .ne 6, 3) := by decide +kernel
theorem od_method_2_13 : decode method_2_code 13 = .ok (.bipush 110, 2) := by decide +kernel
theorem od_method_2_15 : decode method_2_code 15 = .ok (.ireturn, 1) := by decide +kernel
theorem od_method_2_16 : decode method_2_code 16 = .ok (.iload_n 1, 1) := by decide +kernel
theorem od_method_2_17 : decode method_2_code 17 = .ok (.ireturn, 1) := by decide +kernel
theorem od_method_3_0 : decode method_3_code 0 = .ok (.iload_n 0, 1) := by decide +kernel
theorem od_method_3_1 : decode method_3_code 1 = .ok (.bipush 7, 2) := by decide +kernel
theorem od_method_3_3 : decode method_3_code 3 = .ok (.iand, 1) := by decide +kernel
theorem od_method_3_4 : decode method_3_code 4 = .ok (.iconst 4, 1) := by decide +kernel
theorem od_method_3_5 : decode method_3_code 5 = .ok (.if_icmp .ge 7, 3) := by decide +kernel
theorem od_method_3_8 : decode method_3_code 8 = .ok (.iconst 1, 1) := by decide +kernel
theorem od_method_3_9 : decode method_3_code 9 = .ok (.goto 4, 3) := by decide +kernel
theorem od_method_3_13 : decode method_3_code 13 = .ok (.ireturn, 1) := by decide +kernel
theorem od_method_3_12 : decode method_3_code 12 = .ok (.iconst 0, 1) := by decide +kernel
theorem od_method_4_0 : decode method_4_code 0 = .ok (.iload_n 0, 1) := by decide +kernel
theorem od_method_4_1 : decode method_4_code 1 = .ok (.ifCond .ne 6, 3) := by decide +kernel
theorem od_method_4_4 : decode method_4_code 4 = .ok (.bipush 92, 2) := by decide +kernel
theorem od_method_4_6 : decode method_4_code 6 = .ok (.ireturn, 1) := by decide +kernel
theorem od_method_4_7 : decode method_4_code 7 = .ok (.iload_n 0, 1) := by decide +kernel
theorem od_method_4_8 : decode method_4_code 8 = .ok (.iconst 1, 1) := by decide +kernel
theorem od_method_4_9 : decode method_4_code 9 = .ok (.if_icmp .ne 6, 3) := by decide +kernel
theorem od_method_4_12 : decode method_4_code 12 = .ok (.bipush 116, 2) := by decide +kernel
theorem od_method_4_14 : decode method_4_code 14 = .ok (.ireturn, 1) := by decide +kernel
theorem od_method_4_15 : decode method_4_code 15 = .ok (.iload_n 0, 1) := by decide +kernel
theorem od_method_4_16 : decode method_4_code 16 = .ok (.iconst 2, 1) := by decide +kernel
theorem od_method_4_17 : decode method_4_code 17 = .ok (.if_icmp .ne 6, 3) := by decide +kernel
theorem od_method_4_20 : decode method_4_code 20 = .ok (.bipush 110, 2) := by decide +kernel
theorem od_method_4_22 : decode method_4_code 22 = .ok (.ireturn, 1) := by decide +kernel
theorem od_method_4_23 : decode method_4_code 23 = .ok (.bipush 114, 2) := by decide +kernel
theorem od_method_4_25 : decode method_4_code 25 = .ok (.ireturn, 1) := by decide +kernel
theorem od_method_5_0 : decode method_5_code 0 = .ok (.iload_n 0, 1) := by decide +kernel
theorem od_method_5_1 : decode method_5_code 1 = .ok (.ifCond .ne 6, 3) := by decide +kernel
theorem od_method_5_4 : decode method_5_code 4 = .ok (.bipush 92, 2) := by decide +kernel
theorem od_method_5_6 : decode method_5_code 6 = .ok (.ireturn, 1) := by decide +kernel
theorem od_method_5_7 : decode method_5_code 7 = .ok (.iload_n 0, 1) := by decide +kernel
theorem od_method_5_8 : decode method_5_code 8 = .ok (.iconst 1, 1) := by decide +kernel
theorem od_method_5_9 : decode method_5_code 9 = .ok (.if_icmp .ne 6, 3) := by decide +kernel
theorem od_method_5_12 : decode method_5_code 12 = .ok (.bipush 9, 2) := by decide +kernel
theorem od_method_5_14 : decode method_5_code 14 = .ok (.ireturn, 1) := by decide +kernel
theorem od_method_5_15 : decode method_5_code 15 = .ok (.iload_n 0, 1) := by decide +kernel
theorem od_method_5_16 : decode method_5_code 16 = .ok (.iconst 2, 1) := by decide +kernel
theorem od_method_5_17 : decode method_5_code 17 = .ok (.if_icmp .ne 6, 3) := by decide +kernel
theorem od_method_5_20 : decode method_5_code 20 = .ok (.bipush 10, 2) := by decide +kernel
theorem od_method_5_22 : decode method_5_code 22 = .ok (.ireturn, 1) := by decide +kernel
theorem od_method_5_23 : decode method_5_code 23 = .ok (.bipush 13, 2) := by decide +kernel
theorem od_method_5_25 : decode method_5_code 25 = .ok (.ireturn, 1) := by decide +kernel
theorem od_method_6_0 : decode method_6_code 0 = .ok (.iload_n 2, 1) := by decide +kernel
theorem od_method_6_1 : decode method_6_code 1 = .ok (.invokestatic 7, 3) := by decide +kernel
theorem od_method_6_4 : decode method_6_code 4 = .ok (.ifCond .eq 24, 3) := by decide +kernel
theorem od_method_6_7 : decode method_6_code 7 = .ok (.aload_n 0, 1) := by decide +kernel
theorem od_method_6_8 : decode method_6_code 8 = .ok (.iload_n 1, 1) := by decide +kernel
theorem od_method_6_9 : decode method_6_code 9 = .ok (.bipush 92, 2) := by decide +kernel
theorem od_method_6_11 : decode method_6_code 11 = .ok (.castore, 1) := by decide +kernel
theorem od_method_6_12 : decode method_6_code 12 = .ok (.aload_n 0, 1) := by decide +kernel
theorem od_method_6_13 : decode method_6_code 13 = .ok (.iload_n 1, 1) := by decide +kernel
theorem od_method_6_14 : decode method_6_code 14 = .ok (.iconst 1, 1) := by decide +kernel
theorem od_method_6_15 : decode method_6_code 15 = .ok (.iadd, 1) := by decide +kernel
theorem od_method_6_16 : decode method_6_code 16 = .ok (.iload_n 2, 1) := by decide +kernel
theorem od_method_6_17 : decode method_6_code 17 = .ok (.bipush 7, 2) := by decide +kernel
theorem od_method_6_19 : decode method_6_code 19 = .ok (.iand, 1) := by decide +kernel
theorem od_method_6_20 : decode method_6_code 20 = .ok (.invokestatic 13, 3) := by decide +kernel
theorem od_method_6_23 : decode method_6_code 23 = .ok (.castore, 1) := by decide +kernel
theorem od_method_6_24 : decode method_6_code 24 = .ok (.iload_n 1, 1) := by decide +kernel
theorem od_method_6_25 : decode method_6_code 25 = .ok (.iconst 2, 1) := by decide +kernel
theorem od_method_6_26 : decode method_6_code 26 = .ok (.iadd, 1) := by decide +kernel
theorem od_method_6_27 : decode method_6_code 27 = .ok (.ireturn, 1) := by decide +kernel
theorem od_method_6_28 : decode method_6_code 28 = .ok (.aload_n 0, 1) := by decide +kernel
theorem od_method_6_29 : decode method_6_code 29 = .ok (.iload_n 1, 1) := by decide +kernel
theorem od_method_6_30 : decode method_6_code 30 = .ok (.iload_n 2, 1) := by decide +kernel
theorem od_method_6_31 : decode method_6_code 31 = .ok (.iconst 3, 1) := by decide +kernel
theorem od_method_6_32 : decode method_6_code 32 = .ok (.iushr, 1) := by decide +kernel
theorem od_method_6_33 : decode method_6_code 33 = .ok (.invokestatic 17, 3) := by decide +kernel
theorem od_method_6_36 : decode method_6_code 36 = .ok (.castore, 1) := by decide +kernel
theorem od_method_6_37 : decode method_6_code 37 = .ok (.iload_n 1, 1) := by decide +kernel
theorem od_method_6_38 : decode method_6_code 38 = .ok (.iconst 1, 1) := by decide +kernel
theorem od_method_6_39 : decode method_6_code 39 = .ok (.iadd, 1) := by decide +kernel
theorem od_method_6_40 : decode method_6_code 40 = .ok (.ireturn, 1) := by decide +kernel
theorem od_method_7_0 : decode method_7_code 0 = .ok (.iload_n 0, 1) := by decide +kernel
theorem od_method_7_1 : decode method_7_code 1 = .ok (.invokestatic 7, 3) := by decide +kernel
theorem od_method_7_4 : decode method_7_code 4 = .ok (.ifCond .eq 11, 3) := by decide +kernel
theorem od_method_7_7 : decode method_7_code 7 = .ok (.iload_n 0, 1) := by decide +kernel
theorem od_method_7_8 : decode method_7_code 8 = .ok (.bipush 7, 2) := by decide +kernel
theorem od_method_7_10 : decode method_7_code 10 = .ok (.iand, 1) := by decide +kernel
theorem od_method_7_11 : decode method_7_code 11 = .ok (.invokestatic 20, 3) := by decide +kernel
theorem od_method_7_14 : decode method_7_code 14 = .ok (.ireturn, 1) := by decide +kernel
theorem od_method_7_15 : decode method_7_code 15 = .ok (.iload_n 0, 1) := by decide +kernel
theorem od_method_7_16 : decode method_7_code 16 = .ok (.iconst 3, 1) := by decide +kernel
theorem od_method_7_17 : decode method_7_code 17 = .ok (.iushr, 1) := by decide +kernel
theorem od_method_7_18 : decode method_7_code 18 = .ok (.invokestatic 17, 3) := by decide +kernel
theorem od_method_7_21 : decode method_7_code 21 = .ok (.ireturn, 1) := by decide +kernel
theorem opd_0 : parseMethodDescriptor "(C)Z" = some ⟨[.char], some .boolean⟩ := by decide +kernel
theorem opd_1 : parseMethodDescriptor "(C)[B" = some ⟨[.char], some (.array .byte)⟩ := by decide +kernel
theorem opd_2 : parseMethodDescriptor "([BB)V" = some ⟨[(.array .byte), .byte], none⟩ := by decide +kernel
theorem opd_3 : parseMethodDescriptor "()I" = some ⟨[], some .int⟩ := by decide +kernel
theorem opd_4 : parseMethodDescriptor "(I)V" = some ⟨[.int], none⟩ := by decide +kernel
theorem opd_5 : parseMethodDescriptor "()Z" = some ⟨[], some .boolean⟩ := by decide +kernel
theorem opd_6 : parseMethodDescriptor "(C)Ljava/lang/AbstractStringBuilder;" = some ⟨[.char], some (.object "java/lang/AbstractStringBuilder")⟩ := by decide +kernel
theorem opd_7 : parseMethodDescriptor "(II)V" = some ⟨[.int, .int], none⟩ := by decide +kernel
theorem opd_8 : parseMethodDescriptor "(II)I" = some ⟨[.int, .int], some .int⟩ := by decide +kernel
theorem opd_9 : parseMethodDescriptor "([BII)[B" = some ⟨[(.array .byte), .int, .int], some (.array .byte)⟩ := by decide +kernel
theorem opd_10 : parseMethodDescriptor "()[B" = some ⟨[], some (.array .byte)⟩ := by decide +kernel
theorem opd_11 : parseMethodDescriptor "(Ljava/lang/AbstractStringBuilder;Ljava/lang/Void;)V" = some ⟨[(.object "java/lang/AbstractStringBuilder"), (.object "java/lang/Void")], none⟩ := by decide +kernel
theorem opd_12 : parseMethodDescriptor "(Ljava/lang/StringBuilder;)V" = some ⟨[(.object "java/lang/StringBuilder")], none⟩ := by decide +kernel
theorem opd_13 : parseMethodDescriptor "()Ljava/lang/String;" = some ⟨[], some (.object "java/lang/String")⟩ := by decide +kernel
theorem opd_14 : parseMethodDescriptor "(I)C" = some ⟨[.int], some .char⟩ := by decide +kernel
theorem opd_15 : parseMethodDescriptor "(C)Ljava/lang/StringBuilder;" = some ⟨[.char], some (.object "java/lang/StringBuilder")⟩ := by decide +kernel
theorem opd_16 : parseMethodDescriptor "(I)Z" = some ⟨[.int], some .boolean⟩ := by decide +kernel
theorem opd_17 : parseMethodDescriptor "(Ljava/lang/String;Ljava/lang/String;)Ljava/lang/String;" = some ⟨[(.object "java/lang/String"), (.object "java/lang/String")], some (.object "java/lang/String")⟩ := by decide +kernel
theorem opd_18 : parseMethodDescriptor "(Ljava/lang/Object;)Z" = some ⟨[(.object "java/lang/Object")], some .boolean⟩ := by decide +kernel
theorem opd_19 : parseMethodDescriptor "(C)Ljava/lang/String;" = some ⟨[.char], some (.object "java/lang/String")⟩ := by decide +kernel
theorem opd_20 : parseMethodDescriptor "([CII)I" = some ⟨[(.array .char), .int, .int], some .int⟩ := by decide +kernel
theorem opd_21 : parseMethodDescriptor "([C)V" = some ⟨[(.array .char)], none⟩ := by decide +kernel
theorem ef_rm_canEncode (m : MethodId) (x0 : Int32) : entryFrame m #[(.int x0)] 1 = mkF m 0 #[.val (.int x0)] [] := by first | (simp [entryFrame, mkF, argsToLocals, Value.category]; done) | rfl
set_option maxRecDepth 65536 in
set_option maxHeartbeats 40000000 in
theorem rm_canEncode (l : Launch) (Z : State) (a0 : Array Value) (hw : ∀ d ∈ tables_1, d.before a0 Z = true) (p1 : Int32) (h0 : Heap) (n0 : Nat) (Z0 : n0 ≤ h0.size) (hc1 : ¬ (255 : Int32) < p1) :
    own_Met l Z (⟨"java/lang/StringLatin1", "canEncode", "(C)Z"⟩ : MethodName) jdk_43_method_3_code 1 (some .boolean) ({ frames := 0, cells := 0, slots := 0, locals := 0 } : Room) #[(.int p1)] h0 (fun v h L => v = some (.int (1 : Int32)) ∧ Fr n0 L ∧ h0 = h) := by
  refine own_body (plainFor_of_name (by first | (simp [plainName, overriddenIn]; done) | decide +kernel)) ?_
  intro p e s m below meth c s₁ hx hby hml hown hnm hlk hrt hZ X0 e0
  refine own_enter (ef_rm_canEncode m p1) ?_
  have N0 := Fr.nil n0
  refine own_iloadN X0 hx hby od_jdk_43_method_3_0 (pc' := 1) rfl rfl ?_
  refine own_sipush X0 hx hby od_jdk_43_method_3_1 (pc' := 4) rfl (z := 255) rfl ?_
  refine own_icmpN X0 hx hby od_jdk_43_method_3_4 (pc' := 7) rfl (flt hc1).2.2.1 ?_
  refine own_iconst X0 hx hby od_jdk_43_method_3_7 (pc' := 8) rfl (z := 1) rfl ?_
  refine own_goto X0 hx hby od_jdk_43_method_3_8 (by decide) (pc' := 12) (by decide) ?_
  exact own_retN X0 hx hby hlk hrt (by simp) od_jdk_43_method_3_12 (z' := (1 : Int32)) rfl (by first | exact ⟨rfl, N0, rfl⟩ | (rw [e0]; exact ⟨rfl, N0, rfl⟩)) (by decide) (by decide)
theorem ef_rm_toBytes (m : MethodId) (x0 : Int32) : entryFrame m #[(.int x0)] 1 = mkF m 0 #[.val (.int x0)] [] := by first | (simp [entryFrame, mkF, argsToLocals, Value.category]; done) | rfl
set_option maxRecDepth 65536 in
set_option maxHeartbeats 40000000 in
theorem rm_toBytes (l : Launch) (Z : State) (a0 : Array Value) (hw : ∀ d ∈ tables_1, d.before a0 Z = true) (p1 : Int32) (h0 : Heap) (n0 : Nat) (Z0 : n0 ≤ h0.size) :
    own_Met l Z (⟨"java/lang/StringLatin1", "toBytes", "(C)[B"⟩ : MethodName) jdk_43_method_46_code 1 (some (.array .byte)) ({ frames := 0, cells := 1, slots := 1, locals := 0 } : Room) #[(.int p1)] h0 (fun v h L => ∃ (b : Addr) (kA : ClassId), v = some (.ref b) ∧ n0 ≤ b ∧ Ext h0 h ∧ Fr n0 L ∧ Arv Z h b kA .byte (1 : Int32) [(.int p1.toInt8.toInt32)] (.int (0 : Int32))) := by
  refine own_body (plainFor_of_name (by first | (simp [plainName, overriddenIn]; done) | decide +kernel)) ?_
  intro p e s m below meth c s₁ hx hby hml hown hnm hlk hrt hZ X0 e0
  refine own_enter (ef_rm_toBytes m p1) ?_
  have N0 := Fr.nil n0
  refine own_iconst X0 hx hby od_jdk_43_method_46_0 (pc' := 1) rfl (z := 1) rfl ?_
  refine own_newP (aty := .byte) X0 hx hby hZ (ow_3 hw) e0 od_jdk_43_method_46_1 (pc' := 3) rfl (by decide) (cap := 1) (by decide) (by decide) (by decide) (by decide) ?_
  intro T1 h1 b1 kA1 g1 X1 e1 E1 V_b1
  have le2 : h0.size ≤ b1 := Nat.le_of_eq g1.symm
  have n0_b1 : n0 ≤ b1 := Nat.le_trans Z0 (Nat.le_of_eq g1.symm)
  replace V_b1 : Arv Z h1 b1 kA1 .byte (1 : Int32) [(.int (0 : Int32))] (.int (0 : Int32)) := V_b1.pad (pad_rep [] (.int (0 : Int32)) 1)
  refine own_dup X1 hx hby od_jdk_43_method_46_3 (pc' := 4) rfl rfl ?_
  refine own_iconst X1 hx hby od_jdk_43_method_46_4 (pc' := 5) rfl (z := 0) rfl ?_
  refine own_iloadN X1 hx hby od_jdk_43_method_46_5 (pc' := 6) rfl rfl ?_
  refine own_i2b X1 hx hby od_jdk_43_method_46_6 (pc' := 7) rfl ?_
  refine own_stB X1 hx hby hZ e1 V_b1 ⟨by decide, by decide⟩ 0 rfl (Nat.le_of_ble_eq_true rfl) od_jdk_43_method_46_7 (pc' := 8) rfl ?_
  intro T3 h3 X3 e3 W3 V3_b1
  replace V3_b1 : Arv Z h3 b1 kA1 .byte (1 : Int32) [(.int (nar .byte (p1.toInt8.toInt32)))] (.int (0 : Int32)) := V3_b1
  have Ea4 := own_xw E1 W3 le2
  have N3 := own_fr1 (sl := ((0 : Int32)).toNatClampNeg) N0 n0_b1
  rw [own_narb] at V3_b1
  exact own_retA X3 hx hby hlk hrt rfl rfl od_jdk_43_method_46_8 (by first | exact ⟨b1, kA1, rfl, n0_b1, Ea4, N3, V3_b1⟩ | (rw [e3]; exact ⟨b1, kA1, rfl, n0_b1, Ea4, N3, V3_b1⟩)) (by decide) (by decide)
theorem ef_rm_strBB (m : MethodId) (x0 : Addr) (x1 : Addr) (x2 : Int32) : entryFrame m #[(.ref x0), (.ref x1), (.int x2)] 3 = mkF m 0 #[.val (.ref x0), .val (.ref x1), .val (.int x2)] [] := by first | (simp [entryFrame, mkF, argsToLocals, Value.category]; done) | rfl
set_option maxRecDepth 65536 in
set_option maxHeartbeats 40000000 in
theorem rm_strBB (l : Launch) (Z : State) (a0 : Array Value) (hw : ∀ d ∈ tables_1, d.before a0 Z = true) (a1 a2 : Addr) (h0 : Heap) (n0 : Nat) (Z0 : n0 ≤ h0.size) (n0_a1 : n0 ≤ a1) (A1 : Exa Z h0 a1 "java/lang/String") (F1 : Fld Z h0 a1 "java/lang/String" "value" "[B" .null) (F2 : Fld Z h0 a1 "java/lang/String" "coder" "B" (.int (0 : Int32))) :
    own_Met l Z (⟨"java/lang/String", "<init>", "([BB)V"⟩ : MethodName) jdk_42_method_151_code 3 none ({ frames := 1, cells := 0, slots := 0, locals := 12 } : Room) #[(.ref a1), (.ref a2), (.int (0 : Int32))] h0 (fun v h L => v = none ∧ Fr n0 L ∧ Keep h0 h [a1] ∧ Exa Z h a1 "java/lang/String" ∧ Fld Z h a1 "java/lang/String" "value" "[B" (.ref a2) ∧ Fld Z h a1 "java/lang/String" "coder" "B" (.int (0 : Int32))) := by
  refine own_body (plainFor_of_name (by first | (simp [plainName, overriddenIn]; done) | decide +kernel)) ?_
  intro p e s m below meth c s₁ hx hby hml hown hnm hlk hrt hZ X0 e0
  refine own_enter (ef_rm_strBB m a1 a2 (0 : Int32)) ?_
  have N0 := Fr.nil n0
  have K0 := Keep.refl h0 [a1]
  refine own_aloadN X0 hx hby od_jdk_42_method_151_0 (pc' := 1) rfl rfl rfl ?_
  refine own_initO X0 hx hby hZ hml hown (ow_59 hw) (ow_39 hw) (ow_40 hw) e0 rfl od_jdk_42_method_151_1 (pc' := 4) rfl (by decide) (W := 0) (Nat.le_refl _) (by decide) ?_
  intro T1 X1 e1
  refine own_aloadN X1 hx hby od_jdk_42_method_151_4 (pc' := 5) rfl rfl rfl ?_
  refine own_aloadN X1 hx hby od_jdk_42_method_151_5 (pc' := 6) rfl rfl rfl ?_
  refine own_putF X1 hx hby hZ hown (host := "") (Or.inl (ow_21 hw)) Via.refl e1 F1 A1 (Or.inr ⟨(ow_4 hw), rfl, hnm⟩) (ow_2 hw) (ty := (.array .byte)) (by decide) rfl rfl od_jdk_42_method_151_6 (pc' := 9) rfl ?_
  intro T2 h2 X2 e2 W2 F2_value_a1 A2_a1
  have Fw2_3 := F2.other W2 (Or.inr (slot_ne (Or.inr (ow_5 hw)) (Or.inr (ow_4 hw)) (by decide) (t := .byte) (t' := (.array .byte)) (by decide) (by decide)))
  have K4 := K0.wr W2 (Or.inl (List.mem_of_getElem? (i := 0) rfl))
  have N2 := own_fr1 (sl := Jvm.RoadKit.slotOf Z "java/lang/String" "value" "[B") N0 n0_a1
  refine own_aloadN X2 hx hby od_jdk_42_method_151_9 (pc' := 10) rfl rfl rfl ?_
  refine own_iloadN X2 hx hby od_jdk_42_method_151_10 (pc' := 11) rfl rfl ?_
  refine own_putFN X2 hx hby hZ hown (ow_28 hw) Via.refl e2 Fw2_3 A2_a1 (Or.inr ⟨(ow_5 hw), rfl, hnm⟩) (ow_2 hw) (ty := .byte) (v' := (.int (0 : Int32))) (by decide) rfl rfl od_jdk_42_method_151_11 (pc' := 14) rfl ?_
  intro T5 h5 X5 e5 W5 F5_coder_a1 A5_a1
  have Fw5_6 := F2_value_a1.other W5 (Or.inr (slot_ne (Or.inr (ow_4 hw)) (Or.inr (ow_5 hw)) (by decide) (t := (.array .byte)) (t' := .byte) (by decide) (by decide)))
  have K7 := K4.wr W5 (Or.inl (List.mem_of_getElem? (i := 0) rfl))
  have N5 := own_fr1 (sl := Jvm.RoadKit.slotOf Z "java/lang/String" "coder" "B") N2 n0_a1
  exact own_ret0 X5 hx hby hlk hrt od_jdk_42_method_151_14 (by first | exact ⟨rfl, N5, K7, A5_a1, Fw5_6, F5_coder_a1⟩ | (rw [e5]; exact ⟨rfl, N5, K7, A5_a1, Fw5_6, F5_coder_a1⟩)) (by decide) (by decide)
theorem ef_rm_valueOf (m : MethodId) (x0 : Int32) : entryFrame m #[(.int x0)] 1 = mkF m 0 #[.val (.int x0)] [] := by first | (simp [entryFrame, mkF, argsToLocals, Value.category]; done) | rfl
set_option maxRecDepth 65536 in
set_option maxHeartbeats 40000000 in
theorem rm_valueOf (l : Launch) (Z : State) (a0 : Array Value) (hw : ∀ d ∈ tables_1, d.before a0 Z = true) (p1 G1 : Int32) (h0 : Heap) (n0 : Nat) (Z0 : n0 ≤ h0.size) (S_cs : Sta Z h0 "java/lang/String" "COMPACT_STRINGS" "Z" (.int G1)) (P5 : ¬ (G1 = (0 : Int32))) (hc0 : ¬ p1 < (0 : Int32)) (hc1 : ¬ (255 : Int32) < p1) :
    own_Met l Z (⟨"java/lang/String", "valueOf", "(C)Ljava/lang/String;"⟩ : MethodName) jdk_42_method_139_code 1 (some (.object "java/lang/String")) ({ frames := 2, cells := 2, slots := 5, locals := 27 } : Room) #[(.int p1)] h0 (fun v h L => ∃ r : Addr, v = some (.ref r) ∧ n0 ≤ r ∧ Ext h0 h ∧ Fr n0 L ∧ own_Str Z h r [p1]) := by
  refine own_body (plainFor_of_name (by first | (simp [plainName, overriddenIn]; done) | decide +kernel)) ?_
  intro p e s m below meth c s₁ hx hby hml hown hnm hlk hrt hZ X0 e0
  refine own_enter (ef_rm_valueOf m p1) ?_
  have N0 := Fr.nil n0
  refine own_getS X0 hx hby hZ hown (host := "") (Or.inl (ow_27 hw)) Via.refl e0 S_cs od_jdk_42_method_139_0 (pc' := 3) rfl ?_
  intro T1 X1 e1
  refine own_ifN X1 hx hby od_jdk_42_method_139_3 (pc' := 6) rfl (feq P5).1 ?_
  refine own_iloadN X1 hx hby od_jdk_42_method_139_6 (pc' := 7) rfl rfl ?_
  refine own_callM X1 hx hby hml hZ hown (ow_199 hw) (ow_172 hw) (ow_102 hw) (ow_173 hw) (by decide) (cc := 0) (ss := 0) (rm_canEncode l Z a0 hw p1 h0 n0 Z0 hc1) 0 rfl rfl (by decide) (by decide) rfl (argsL := [(.int p1)]) (rest := []) opd_0 rfl rfl (Nat.le_refl _) od_jdk_42_method_139_7 (pc' := 10) rfl rfl e1 (by decide) (by decide) ?_
  rintro v2 T2 h2 L2 X2 e2 ⟨rfl, Nq2, rfl⟩
  have N2 := N0.app Nq2
  refine own_ifN X2 hx hby od_jdk_42_method_139_10 (pc' := 13) rfl (feq (by decide)).1 ?_
  refine own_newO X2 hx hby hZ hown (ow_99 hw) (ow_2 hw) (ow_1 hw) e2 od_jdk_42_method_139_13 (pc' := 16) rfl (by decide) (by decide) ?_
  intro T3 h3 b3 g3 X3 e3 E3 AX3 D3
  have le4 : h0.size ≤ b3 := Nat.le_of_eq g3.symm
  have n0_b3 : n0 ≤ b3 := Nat.le_trans Z0 (Nat.le_of_eq g3.symm)
  have F_value_b3 : Fld Z h3 b3 "java/lang/String" "value" "[B" .null := D3 (Or.inr (ow_4 hw)) (ty := (.array .byte)) (by decide)
  have F_coder_b3 : Fld Z h3 b3 "java/lang/String" "coder" "B" (.int (0 : Int32)) := D3 (Or.inr (ow_5 hw)) (ty := .byte) (by decide)
  refine own_dup X3 hx hby od_jdk_42_method_139_16 (pc' := 17) rfl rfl ?_
  refine own_iloadN X3 hx hby od_jdk_42_method_139_17 (pc' := 18) rfl rfl ?_
  refine own_callM X3 hx hby hml hZ hown (ow_200 hw) (ow_201 hw) (ow_102 hw) (ow_202 hw) (by decide) (cc := 1) (ss := 1) (rm_toBytes l Z a0 hw p1 h3 n0 (Nat.le_trans Z0 E3.1)) 2 rfl rfl (by decide) (by decide) rfl (argsL := [(.int p1)]) (rest := [(.ref b3), (.ref b3)]) opd_1 rfl rfl (Nat.le_refl _) od_jdk_42_method_139_18 (pc' := 21) rfl rfl e3 (by decide) (by decide) ?_
  rintro v5 T5 h5 L5 X5 e5 ⟨t5, kt5, rfl, nt5, Eq5, Nq5, Vt5⟩
  have N5 := N2.app Nq5
  have Ea6 := own_xt E3 Eq5
  refine own_iconst X5 hx hby od_jdk_42_method_139_21 (pc' := 22) rfl (z := 0) rfl ?_
  refine own_specM X5 hx hby hml hZ hown rfl (ow_203 hw) (ow_204 hw) (ow_1 hw) (ow_205 hw) (by decide) (cc := 0) (ss := 0) (rm_strBB l Z a0 hw b3 t5 h5 n0 (Nat.le_trans Z0 Ea6.1) n0_b3 (AX3.ext Eq5) (F_value_b3.ext Eq5) (F_coder_b3.ext Eq5)) 1 rfl rfl (by decide) (by decide) rfl (argsL := [(.ref t5), (.int (0 : Int32))]) (rest := [(.ref b3)]) opd_2 rfl rfl (Nat.le_refl _) od_jdk_42_method_139_22 (pc' := 25) rfl rfl e5 (by decide) (by decide) ?_
  rintro v7 T7 h7 L7 X7 e7 ⟨rfl, Nq7, Kq7, Aq7, Fv7, Fc7⟩
  have Vt := Vt5.keep Kq7 (ninS (Exa.neArv ((AX3.ext Eq5)) Vt5 (ow_2 hw)).symm nin0)
  have N7 := N5.app Nq7
  have Ea8 := own_xk Ea6 Kq7 (allS le4 all0)
  replace S_cs := S_cs.ext Ea8
  exact own_retA X7 hx hby hlk hrt rfl rfl od_jdk_42_method_139_25 (by first | exact ⟨b3, rfl, n0_b3, Ea8, N7, Aq7, Fc7, (by intro c hc; simp only [List.mem_cons, List.not_mem_nil, or_false] at hc; subst hc; exact ⟨hc0, hc1⟩), t5, kt5, Fv7, Vt⟩ | (rw [e7]; exact ⟨b3, rfl, n0_b3, Ea8, N7, Aq7, Fc7, (by intro c hc; simp only [List.mem_cons, List.not_mem_nil, or_false] at hc; subst hc; exact ⟨hc0, hc1⟩), t5, kt5, Fv7, Vt⟩)) (by decide) (by decide)
theorem ef_rm_ens (m : MethodId) (x0 : Addr) (x1 : Int32) : entryFrame m #[(.ref x0), (.int x1)] 3 = mkF m 0 #[.val (.ref x0), .val (.int x1), .unset] [] := by first | (simp [entryFrame, mkF, argsToLocals, Value.category]; done) | rfl
set_option maxRecDepth 65536 in
set_option maxHeartbeats 40000000 in
theorem rm_ens (l : Launch) (Z : State) (a0 : Array Value) (hw : ∀ d ∈ tables_1, d.before a0 Z = true) (sb vb : Addr) (kb : ClassId) (ds : List Int32) (n : Nat) (h0 : Heap) (n0 : Nat) (Z0 : n0 ≤ h0.size) (B : own_SB Z h0 sb vb kb ds n) (hr : ds.length < n) :
    own_Met l Z (⟨"java/lang/AbstractStringBuilder", "ensureCapacityInternal", "(I)V"⟩ : MethodName) jdk_68_method_9_code 3 none ({ frames := 0, cells := 0, slots := 0, locals := 0 } : Room) #[(.ref sb), (.int (Int32.ofNat ds.length + (1 : Int32)))] h0 (fun v h L => v = none ∧ Fr n0 L ∧ h0 = h) := by
  refine own_body (plainFor_of_name (by first | (simp [plainName, overriddenIn]; done) | decide +kernel)) ?_
  intro p e s m below meth c s₁ hx hby hml hown hnm hlk hrt hZ X0 e0
  refine own_enter (ef_rm_ens m sb (Int32.ofNat ds.length + (1 : Int32))) ?_
  have N0 := Fr.nil n0
  obtain ⟨A_s, F_v, F_c, F_n, V_b, A_b, hb, hk, hn⟩ := B
  refine own_aloadN X0 hx hby od_jdk_68_method_9_0 (pc' := 1) rfl rfl rfl ?_
  refine own_getF X0 hx hby hZ hown (host := "") (Or.inl (ow_42 hw)) Via.refl e0 F_v od_jdk_68_method_9_1 (pc' := 4) rfl ?_
  intro T1 X1 e1
  refine own_alenV X1 hx hby hZ e1 V_b od_jdk_68_method_9_4 (pc' := 5) rfl ?_
  refine own_aloadN X1 hx hby od_jdk_68_method_9_5 (pc' := 6) rfl rfl rfl ?_
  refine own_getF X1 hx hby hZ hown (host := "") (Or.inl (ow_44 hw)) Via.refl e1 F_c od_jdk_68_method_9_6 (pc' := 9) rfl ?_
  intro T2 X2 e2
  refine own_ishr X2 hx hby od_jdk_68_method_9_9 (pc' := 10) rfl ?_
  refine own_istoreN X2 hx hby od_jdk_68_method_9_10 (pc' := 11) rfl (Ls' := #[.val (.ref sb), .val (.int (Int32.ofNat ds.length + (1 : Int32))), .val (.int ((Int32.ofNat n) >>> ((0 : Int32) &&& 31)))]) rfl ?_
  refine own_iloadN X2 hx hby od_jdk_68_method_9_11 (pc' := 12) rfl rfl ?_
  refine own_iloadN X2 hx hby od_jdk_68_method_9_12 (pc' := 13) rfl rfl ?_
  refine own_isub X2 hx hby od_jdk_68_method_9_13 (pc' := 14) rfl ?_
  refine own_ifY X2 hx hby od_jdk_68_method_9_14 (by decide) (pc' := 38) (by decide) (flt (own_cap hr hn)).2.2.2 ?_
  exact own_ret0 X2 hx hby hlk hrt od_jdk_68_method_9_38 (by first | exact ⟨rfl, N0, rfl⟩ | (rw [e2]; exact ⟨rfl, N0, rfl⟩)) (by decide) (by decide)
theorem ef_rm_isL (m : MethodId) (x0 : Addr) : entryFrame m #[(.ref x0)] 1 = mkF m 0 #[.val (.ref x0)] [] := by first | (simp [entryFrame, mkF, argsToLocals, Value.category]; done) | rfl
set_option maxRecDepth 65536 in
set_option maxHeartbeats 40000000 in
theorem rm_isL (l : Launch) (Z : State) (a0 : Array Value) (hw : ∀ d ∈ tables_1, d.before a0 Z = true) (sb vb : Addr) (kb : ClassId) (ds : List Int32) (n : Nat) (G1 : Int32) (h0 : Heap) (n0 : Nat) (Z0 : n0 ≤ h0.size) (B : own_SB Z h0 sb vb kb ds n) (S_cs : Sta Z h0 "java/lang/String" "COMPACT_STRINGS" "Z" (.int G1)) (P5 : ¬ (G1 = (0 : Int32))) :
    own_Met l Z (⟨"java/lang/AbstractStringBuilder", "isLatin1", "()Z"⟩ : MethodName) jdk_68_method_68_code 1 (some .boolean) ({ frames := 0, cells := 0, slots := 0, locals := 0 } : Room) #[(.ref sb)] h0 (fun v h L => v = some (.int (1 : Int32)) ∧ Fr n0 L ∧ h0 = h) := by
  refine own_body (plainFor_of_name (by first | (simp [plainName, overriddenIn]; done) | decide +kernel)) ?_
  intro p e s m below meth c s₁ hx hby hml hown hnm hlk hrt hZ X0 e0
  refine own_enter (ef_rm_isL m sb) ?_
  have N0 := Fr.nil n0
  obtain ⟨A_s, F_v, F_c, F_n, V_b, A_b, hb, hk, hn⟩ := B
  refine own_getS X0 hx hby hZ hown (host := "") (Or.inl (ow_41 hw)) Via.refl e0 S_cs od_jdk_68_method_68_0 (pc' := 3) rfl ?_
  intro T1 X1 e1
  refine own_ifN X1 hx hby od_jdk_68_method_68_3 (pc' := 6) rfl (feq P5).1 ?_
  refine own_aloadN X1 hx hby od_jdk_68_method_68_6 (pc' := 7) rfl rfl rfl ?_
  refine own_getF X1 hx hby hZ hown (host := "") (Or.inl (ow_44 hw)) Via.refl e1 F_c od_jdk_68_method_68_7 (pc' := 10) rfl ?_
  intro T2 X2 e2
  refine own_ifN X2 hx hby od_jdk_68_method_68_10 (pc' := 13) rfl (teq rfl).2 ?_
  refine own_iconst X2 hx hby od_jdk_68_method_68_13 (pc' := 14) rfl (z := 1) rfl ?_
  refine own_goto X2 hx hby od_jdk_68_method_68_14 (by decide) (pc' := 18) (by decide) ?_
  exact own_retN X2 hx hby hlk hrt (by simp) od_jdk_68_method_68_18 (z' := (1 : Int32)) rfl (by first | exact ⟨rfl, N0, rfl⟩ | (rw [e2]; exact ⟨rfl, N0, rfl⟩)) (by decide) (by decide)
theorem ef_rm_gv (m : MethodId) (x0 : Addr) : entryFrame m #[(.ref x0)] 1 = mkF m 0 #[.val (.ref x0)] [] := by first | (simp [entryFrame, mkF, argsToLocals, Value.category]; done) | rfl
set_option maxRecDepth 65536 in
set_option maxHeartbeats 40000000 in
theorem rm_gv (l : Launch) (Z : State) (a0 : Array Value) (hw : ∀ d ∈ tables_1, d.before a0 Z = true) (sb vb : Addr) (kb : ClassId) (ds : List Int32) (n : Nat) (h0 : Heap) (n0 : Nat) (Z0 : n0 ≤ h0.size) (B : own_SB Z h0 sb vb kb ds n) :
    own_Met l Z (⟨"java/lang/AbstractStringBuilder", "getValue", "()[B"⟩ : MethodName) jdk_68_method_64_code 1 (some (.array .byte)) ({ frames := 0, cells := 0, slots := 0, locals := 0 } : Room) #[(.ref sb)] h0 (fun v h L => v = some (.ref vb) ∧ Fr n0 L ∧ h0 = h) := by
  refine own_body (plainFor_of_name (by first | (simp [plainName, overriddenIn]; done) | decide +kernel)) ?_
  intro p e s m below meth c s₁ hx hby hml hown hnm hlk hrt hZ X0 e0
  refine own_enter (ef_rm_gv m sb) ?_
  have N0 := Fr.nil n0
  obtain ⟨A_s, F_v, F_c, F_n, V_b, A_b, hb, hk, hn⟩ := B
  refine own_aloadN X0 hx hby od_jdk_68_method_64_0 (pc' := 1) rfl rfl rfl ?_
  refine own_getF X0 hx hby hZ hown (host := "") (Or.inl (ow_42 hw)) Via.refl e0 F_v od_jdk_68_method_64_1 (pc' := 4) rfl ?_
  intro T1 X1 e1
  exact own_retA X1 hx hby hlk hrt rfl rfl od_jdk_68_method_64_4 (by first | exact ⟨rfl, N0, rfl⟩ | (rw [e1]; exact ⟨rfl, N0, rfl⟩)) (by decide) (by decide)
theorem ef_rm_alen (m : MethodId) (x0 : Addr) : entryFrame m #[(.ref x0)] 1 = mkF m 0 #[.val (.ref x0)] [] := by first | (simp [entryFrame, mkF, argsToLocals, Value.category]; done) | rfl
set_option maxRecDepth 65536 in
set_option maxHeartbeats 40000000 in
theorem rm_alen (l : Launch) (Z : State) (a0 : Array Value) (hw : ∀ d ∈ tables_1, d.before a0 Z = true) (sb vb : Addr) (kb : ClassId) (ds : List Int32) (n : Nat) (h0 : Heap) (n0 : Nat) (Z0 : n0 ≤ h0.size) (B : own_SB Z h0 sb vb kb ds n) :
    own_Met l Z (⟨"java/lang/AbstractStringBuilder", "length", "()I"⟩ : MethodName) jdk_68_method_6_code 1 (some .int) ({ frames := 0, cells := 0, slots := 0, locals := 0 } : Room) #[(.ref sb)] h0 (fun v h L => v = some (.int (Int32.ofNat ds.length)) ∧ Fr n0 L ∧ h0 = h) := by
  refine own_body (plainFor_of_name (by first | (simp [plainName, overriddenIn]; done) | decide +kernel)) ?_
  intro p e s m below meth c s₁ hx hby hml hown hnm hlk hrt hZ X0 e0
  refine own_enter (ef_rm_alen m sb) ?_
  have N0 := Fr.nil n0
  obtain ⟨A_s, F_v, F_c, F_n, V_b, A_b, hb, hk, hn⟩ := B
  refine own_aloadN X0 hx hby od_jdk_68_method_6_0 (pc' := 1) rfl rfl rfl ?_
  refine own_getF X0 hx hby hZ hown (host := "") (Or.inl (ow_74 hw)) Via.refl e0 F_n od_jdk_68_method_6_1 (pc' := 4) rfl ?_
  intro T1 X1 e1
  exact own_retI X1 hx hby hlk hrt od_jdk_68_method_6_4 (by first | exact ⟨rfl, N0, rfl⟩ | (rw [e1]; exact ⟨rfl, N0, rfl⟩)) (by decide) (by decide)
theorem ef_rm_slen (m : MethodId) (x0 : Addr) : entryFrame m #[(.ref x0)] 1 = mkF m 0 #[.val (.ref x0)] [] := by first | (simp [entryFrame, mkF, argsToLocals, Value.category]; done) | rfl
set_option maxRecDepth 65536 in
set_option maxHeartbeats 40000000 in
theorem rm_slen (l : Launch) (Z : State) (a0 : Array Value) (hw : ∀ d ∈ tables_1, d.before a0 Z = true) (sb vb : Addr) (kb : ClassId) (ds : List Int32) (n : Nat) (h0 : Heap) (n0 : Nat) (Z0 : n0 ≤ h0.size) (B : own_SB Z h0 sb vb kb ds n) :
    own_Met l Z (⟨"java/lang/StringBuilder", "length", "()I"⟩ : MethodName) jdk_67_method_93_code 1 (some .int) ({ frames := 1, cells := 0, slots := 0, locals := 12 } : Room) #[(.ref sb)] h0 (fun v h L => v = some (.int (Int32.ofNat ds.length)) ∧ Fr n0 L ∧ h0 = h) := by
  refine own_body (plainFor_of_name (by first | (simp [plainName, overriddenIn]; done) | decide +kernel)) ?_
  intro p e s m below meth c s₁ hx hby hml hown hnm hlk hrt hZ X0 e0
  refine own_enter (ef_rm_slen m sb) ?_
  have N0 := Fr.nil n0
  have A_s := B.1
  refine own_aloadN X0 hx hby od_jdk_67_method_93_0 (pc' := 1) rfl rfl rfl ?_
  refine own_superM X0 hx hby hml hZ hown (ow_71 hw) (own_same (ow_66 hw) (ow_63 hw) rfl (by decide)) (ow_67 hw) (ow_72 hw) (by decide) (ow_36 hw) (ow_73 hw) (cc := 0) (ss := 0) (rm_alen l Z a0 hw sb vb kb ds n h0 n0 Z0 B) 0 rfl rfl (by decide) (by decide) rfl (Ins.self A_s) (argsL := []) (rest := []) opd_3 rfl rfl (Nat.le_refl _) od_jdk_67_method_93_1 (pc' := 4) rfl rfl e0 (by decide) (by decide) ?_
  rintro v1 T1 h1 L1 X1 e1 ⟨rfl, Nq1, rfl⟩
  have N1 := N0.app Nq1
  exact own_retI X1 hx hby hlk hrt od_jdk_67_method_93_4 (by first | exact ⟨rfl, N1, rfl⟩ | (rw [e1]; exact ⟨rfl, N1, rfl⟩)) (by decide) (by decide)
theorem ef_rm_appA (m : MethodId) (x0 : Addr) (x1 : Int32) : entryFrame m #[(.ref x0), (.int x1)] 2 = mkF m 0 #[.val (.ref x0), .val (.int x1)] [] := by first | (simp [entryFrame, mkF, argsToLocals, Value.category]; done) | rfl
set_option maxRecDepth 65536 in
set_option maxHeartbeats 40000000 in
theorem rm_appA (l : Launch) (Z : State) (a0 : Array Value) (hw : ∀ d ∈ tables_1, d.before a0 Z = true) (sb vb : Addr) (kb : ClassId) (ds : List Int32) (n : Nat) (ch G1 : Int32) (h0 : Heap) (n0 : Nat) (Z0 : n0 ≤ h0.size) (n0_sb : n0 ≤ sb) (n0_vb : n0 ≤ vb) (B : own_SB Z h0 sb vb kb ds n) (S_cs : Sta Z h0 "java/lang/String" "COMPACT_STRINGS" "Z" (.int G1)) (P5 : ¬ (G1 = (0 : Int32))) (hr : ds.length < n) (hc : ¬ ch < 0 ∧ ¬ (255 : Int32) < ch) :
    own_Met l Z (⟨"java/lang/AbstractStringBuilder", "append", "(C)Ljava/lang/AbstractStringBuilder;"⟩ : MethodName) jdk_68_method_31_code 2 (some (.object "java/lang/AbstractStringBuilder")) ({ frames := 1, cells := 0, slots := 0, locals := 14 } : Room) #[(.ref sb), (.int ch)] h0 (fun v h L => v = some (.ref sb) ∧ Fr n0 L ∧ Keep h0 h [sb, vb] ∧ own_SB Z h sb vb kb (ds ++ [ch]) n) := by
  refine own_body (plainFor_of_name (by first | (simp [plainName, overriddenIn]; done) | decide +kernel)) ?_
  intro p e s m below meth c s₁ hx hby hml hown hnm hlk hrt hZ X0 e0
  refine own_enter (ef_rm_appA m sb ch) ?_
  have N0 := Fr.nil n0
  have B0 := B
  obtain ⟨A_s, F_v, F_c, F_n, V_b, A_b, hb, hk, hn⟩ := B
  have nev : vb ≠ sb := (Exa.neArv A_s V_b (ow_14 hw)).symm
  have K0 := Keep.refl h0 [sb, vb]
  refine own_aloadN X0 hx hby od_jdk_68_method_31_0 (pc' := 1) rfl rfl rfl ?_
  refine own_aloadN X0 hx hby od_jdk_68_method_31_1 (pc' := 2) rfl rfl rfl ?_
  refine own_getF X0 hx hby hZ hown (host := "") (Or.inl (ow_74 hw)) Via.refl e0 F_n od_jdk_68_method_31_2 (pc' := 5) rfl ?_
  intro T1 X1 e1
  refine own_iconst X1 hx hby od_jdk_68_method_31_5 (pc' := 6) rfl (z := 1) rfl ?_
  refine own_iadd X1 hx hby od_jdk_68_method_31_6 (pc' := 7) rfl ?_
  refine own_virtM X1 hx hby hml hZ hown (ow_165 hw) (own_decl (ow_166 hw) (ow_169 hw)) (notFace_of_selects (args := #[]) (mvT hZ (ow_168 hw))) (ow_168 hw) (ow_166 hw) (ow_36 hw) (ow_169 hw) (by decide) (cc := 0) (ss := 0) (rm_ens l Z a0 hw sb vb kb ds n h0 n0 Z0 B0 hr) 0 rfl rfl (by decide) (by decide) rfl A_s (argsL := [(.int ((Int32.ofNat ds.length) + (1 : Int32)))]) (rest := []) opd_4 rfl rfl (Nat.le_refl _) od_jdk_68_method_31_7 (pc' := 10) rfl rfl e1 (by decide) (by decide) ?_
  rintro v2 T2 h2 L2 X2 e2 ⟨rfl, Nq2, rfl⟩
  have N2 := N0.app Nq2
  refine own_aloadN X2 hx hby od_jdk_68_method_31_10 (pc' := 11) rfl rfl rfl ?_
  refine own_virtM X2 hx hby hml hZ hown (ow_170 hw) (ow_77 hw) (notFace_of_selects (args := #[]) (mvT hZ (ow_79 hw))) (ow_79 hw) (ow_78 hw) (ow_36 hw) (ow_80 hw) (by decide) (cc := 0) (ss := 0) (rm_isL l Z a0 hw sb vb kb ds n G1 h0 n0 Z0 B0 S_cs P5) 0 rfl rfl (by decide) (by decide) rfl A_s (argsL := []) (rest := []) opd_5 rfl rfl (Nat.le_refl _) od_jdk_68_method_31_11 (pc' := 14) rfl rfl e2 (by decide) (by decide) ?_
  rintro v3 T3 h3 L3 X3 e3 ⟨rfl, Nq3, rfl⟩
  have N3 := N2.app Nq3
  refine own_ifN X3 hx hby od_jdk_68_method_31_14 (pc' := 17) rfl (feq (by decide)).1 ?_
  refine own_iloadN X3 hx hby od_jdk_68_method_31_17 (pc' := 18) rfl rfl ?_
  refine own_callM X3 hx hby hml hZ hown (ow_171 hw) (ow_172 hw) (ow_102 hw) (ow_173 hw) (by decide) (cc := 0) (ss := 0) (rm_canEncode l Z a0 hw ch h0 n0 Z0 hc.2) 0 rfl rfl (by decide) (by decide) rfl (argsL := [(.int ch)]) (rest := []) opd_0 rfl rfl (Nat.le_refl _) od_jdk_68_method_31_18 (pc' := 21) rfl rfl e3 (by decide) (by decide) ?_
  rintro v4 T4 h4 L4 X4 e4 ⟨rfl, Nq4, rfl⟩
  have N4 := N3.app Nq4
  refine own_ifN X4 hx hby od_jdk_68_method_31_21 (pc' := 24) rfl (feq (by decide)).1 ?_
  refine own_aloadN X4 hx hby od_jdk_68_method_31_24 (pc' := 25) rfl rfl rfl ?_
  refine own_getF X4 hx hby hZ hown (host := "") (Or.inl (ow_42 hw)) Via.refl e4 F_v od_jdk_68_method_31_25 (pc' := 28) rfl ?_
  intro T5 X5 e5
  refine own_aloadN X5 hx hby od_jdk_68_method_31_28 (pc' := 29) rfl rfl rfl ?_
  refine own_dup X5 hx hby od_jdk_68_method_31_29 (pc' := 30) rfl rfl ?_
  refine own_getF X5 hx hby hZ hown (host := "") (Or.inl (ow_74 hw)) Via.refl e5 F_n od_jdk_68_method_31_30 (pc' := 33) rfl ?_
  intro T6 X6 e6
  refine own_dup_x1 X6 hx hby od_jdk_68_method_31_33 (pc' := 34) rfl rfl rfl ?_
  refine own_iconst X6 hx hby od_jdk_68_method_31_34 (pc' := 35) rfl (z := 1) rfl ?_
  refine own_iadd X6 hx hby od_jdk_68_method_31_35 (pc' := 36) rfl ?_
  refine own_putF X6 hx hby hZ hown (host := "") (Or.inl (ow_74 hw)) Via.refl e6 F_n A_s (Or.inl (ow_75 hw)) (ow_14 hw) (ty := .int) (by decide) rfl rfl od_jdk_68_method_31_36 (pc' := 39) rfl ?_
  intro T7 h7 X7 e7 W7 F7_count_sb A7_sb
  have Fw7_8 := F_v.other W7 (Or.inr (slot_ne (Or.inl (ow_43 hw)) (Or.inl (ow_75 hw)) (by decide) (t := (.array .byte)) (t' := .int) (by decide) (by decide)))
  have Fw7_9 := F_c.other W7 (Or.inr (slot_ne (Or.inl (ow_45 hw)) (Or.inl (ow_75 hw)) (by decide) (t := .byte) (t' := .int) (by decide) (by decide)))
  have Fw7_10 := V_b.other W7 nev
  have Fw7_11 := A_b.wr W7
  have Fw7_12 := S_cs.wr W7
  have K13 := K0.wr W7 (Or.inl (List.mem_of_getElem? (i := 0) rfl))
  have N7 := own_fr1 (sl := Jvm.RoadKit.slotOf Z "java/lang/AbstractStringBuilder" "count" "I") N4 n0_sb
  refine own_iloadN X7 hx hby od_jdk_68_method_31_39 (pc' := 40) rfl rfl ?_
  refine own_i2b X7 hx hby od_jdk_68_method_31_40 (pc' := 41) rfl ?_
  have V_p := Fw7_10.pad (pad_rep _ _ 1)
  refine own_stB X7 hx hby hZ e7 V_p (own_lt6 hr hn) ds.length (own_n6 (Nat.le_trans hk hn)).2.1 (by simp [own_by]) od_jdk_68_method_31_41 (pc' := 42) rfl ?_
  intro T14 h14 X14 e14 W14 V14_vb
  have Fw14_15 := F7_count_sb.other W14 (Or.inl nev.symm)
  have Fw14_16 := A7_sb.wr W14
  have Fw14_17 := Fw7_8.other W14 (Or.inl nev.symm)
  have Fw14_18 := Fw7_9.other W14 (Or.inl nev.symm)
  have Fw14_19 := Fw7_11.wr W14
  have Fw14_20 := Fw7_12.wr W14
  have K21 := K13.wr W14 (Or.inl (List.mem_of_getElem? (i := 1) rfl))
  have N14 := own_fr1 (sl := (Int32.ofNat ds.length).toNatClampNeg) N7 n0_vb
  have V9 : Arv Z h14 vb kb .byte (Int32.ofNat n) (own_by (ds ++ [ch])) (.int (0 : Int32)) := by
    have e1 : (own_by ds ++ [(Value.int (0 : Int32))]).set ds.length (.int (nar .byte ch.toInt8.toInt32)) = own_by (ds ++ [ch]) := by rw [own_narb, own_by_app, ← own_by_len ds, own_setlast]
    rw [← e1]; exact V14_vb
  have F9 := Fw14_15
  rw [own_succ, show ds.length + 1 = (ds ++ [ch]).length from by simp] at F9
  refine own_goto X14 hx hby od_jdk_68_method_31_42 (by decide) (pc' := 75) (by decide) ?_
  refine own_aloadN X14 hx hby od_jdk_68_method_31_75 (pc' := 76) rfl rfl rfl ?_
  exact own_retA X14 hx hby hlk hrt rfl rfl od_jdk_68_method_31_76 (by first | exact ⟨rfl, N14, K21, Fw14_16, Fw14_17, Fw14_18, F9, V9, Fw14_19, own_bnd hb hc, by simp; omega, hn⟩ | (rw [e14]; exact ⟨rfl, N14, K21, Fw14_16, Fw14_17, Fw14_18, F9, V9, Fw14_19, own_bnd hb hc, by simp; omega, hn⟩)) (by decide) (by decide)
theorem ef_rm_app (m : MethodId) (x0 : Addr) (x1 : Int32) : entryFrame m #[(.ref x0), (.int x1)] 2 = mkF m 0 #[.val (.ref x0), .val (.int x1)] [] := by first | (simp [entryFrame, mkF, argsToLocals, Value.category]; done) | rfl
set_option maxRecDepth 65536 in
set_option maxHeartbeats 40000000 in
theorem rm_app (l : Launch) (Z : State) (a0 : Array Value) (hw : ∀ d ∈ tables_1, d.before a0 Z = true) (sb vb : Addr) (kb : ClassId) (ds : List Int32) (n : Nat) (ch G1 : Int32) (h0 : Heap) (n0 : Nat) (Z0 : n0 ≤ h0.size) (n0_sb : n0 ≤ sb) (n0_vb : n0 ≤ vb) (B : own_SB Z h0 sb vb kb ds n) (S_cs : Sta Z h0 "java/lang/String" "COMPACT_STRINGS" "Z" (.int G1)) (P5 : ¬ (G1 = (0 : Int32))) (hr : ds.length < n) (hc : ¬ ch < 0 ∧ ¬ (255 : Int32) < ch) :
    own_Met l Z (⟨"java/lang/StringBuilder", "append", "(C)Ljava/lang/StringBuilder;"⟩ : MethodName) jdk_67_method_14_code 2 (some (.object "java/lang/StringBuilder")) ({ frames := 2, cells := 0, slots := 0, locals := 27 } : Room) #[(.ref sb), (.int ch)] h0 (fun v h L => v = some (.ref sb) ∧ Fr n0 L ∧ Keep h0 h [sb, vb] ∧ own_SB Z h sb vb kb (ds ++ [ch]) n) := by
  refine own_body (plainFor_of_name (by first | (simp [plainName, overriddenIn]; done) | decide +kernel)) ?_
  intro p e s m below meth c s₁ hx hby hml hown hnm hlk hrt hZ X0 e0
  refine own_enter (ef_rm_app m sb ch) ?_
  have N0 := Fr.nil n0
  have A_s := B.1
  refine own_aloadN X0 hx hby od_jdk_67_method_14_0 (pc' := 1) rfl rfl rfl ?_
  refine own_iloadN X0 hx hby od_jdk_67_method_14_1 (pc' := 2) rfl rfl ?_
  refine own_superM X0 hx hby hml hZ hown (ow_161 hw) (own_same (ow_163 hw) (ow_63 hw) rfl (by decide)) (ow_162 hw) (ow_72 hw) (by decide) (ow_36 hw) (ow_164 hw) (cc := 0) (ss := 0) (rm_appA l Z a0 hw sb vb kb ds n ch G1 h0 n0 Z0 n0_sb n0_vb B S_cs P5 hr hc) 0 rfl rfl (by decide) (by decide) rfl (Ins.self A_s) (argsL := [(.int ch)]) (rest := []) opd_6 rfl rfl (Nat.le_refl _) od_jdk_67_method_14_2 (pc' := 5) rfl rfl e0 (by decide) (by decide) ?_
  rintro v1 T1 h1 L1 X1 e1 ⟨rfl, Nq1, Kq1, Bq1⟩
  have N1 := N0.app Nq1
  refine own_pop X1 hx hby od_jdk_67_method_14_5 (pc' := 6) rfl rfl ?_
  refine own_aloadN X1 hx hby od_jdk_67_method_14_6 (pc' := 7) rfl rfl rfl ?_
  exact own_retA X1 hx hby hlk hrt rfl rfl od_jdk_67_method_14_7 (by first | exact ⟨rfl, N1, Kq1, Bq1⟩ | (rw [e1]; exact ⟨rfl, N1, Kq1, Bq1⟩)) (by decide) (by decide)
theorem ef_rm_asb (m : MethodId) (x0 : Addr) (x1 : Int32) : entryFrame m #[(.ref x0), (.int x1)] 2 = mkF m 0 #[.val (.ref x0), .val (.int x1)] [] := by first | (simp [entryFrame, mkF, argsToLocals, Value.category]; done) | rfl
set_option maxRecDepth 65536 in
set_option maxHeartbeats 40000000 in
theorem rm_asb (l : Launch) (Z : State) (a0 : Array Value) (hw : ∀ d ∈ tables_1, d.before a0 Z = true) (sb : Addr) (n : Nat) (G1 : Int32) (h0 : Heap) (n0 : Nat) (Z0 : n0 ≤ h0.size) (n0_sb : n0 ≤ sb) (A_s : Exa Z h0 sb "java/lang/StringBuilder") (F_value : Fld Z h0 sb "java/lang/AbstractStringBuilder" "value" "[B" .null) (F_coder : Fld Z h0 sb "java/lang/AbstractStringBuilder" "coder" "B" (.int (0 : Int32))) (F_count : Fld Z h0 sb "java/lang/AbstractStringBuilder" "count" "I" (.int (0 : Int32))) (S_cs : Sta Z h0 "java/lang/String" "COMPACT_STRINGS" "Z" (.int G1)) (P5 : ¬ (G1 = (0 : Int32))) (hn : n ≤ 6) :
    own_Met l Z (⟨"java/lang/AbstractStringBuilder", "<init>", "(I)V"⟩ : MethodName) jdk_68_method_2_code 2 none ({ frames := 1, cells := 1, slots := 6, locals := 12 } : Room) #[(.ref sb), (.int (Int32.ofNat n))] h0 (fun v h L => ∃ (vb : Addr) (kb : ClassId), v = none ∧ h0.size ≤ vb ∧ n0 ≤ vb ∧ Fr n0 L ∧ Keep h0 h [sb] ∧ own_SB Z h sb vb kb [] n) := by
  refine own_body (plainFor_of_name (by first | (simp [plainName, overriddenIn]; done) | decide +kernel)) ?_
  intro p e s m below meth c s₁ hx hby hml hown hnm hlk hrt hZ X0 e0
  refine own_enter (ef_rm_asb m sb (Int32.ofNat n)) ?_
  have N0 := Fr.nil n0
  have lts := A_s.lt
  have K0 := Keep.refl h0 [sb]
  refine own_aloadN X0 hx hby od_jdk_68_method_2_0 (pc' := 1) rfl rfl rfl ?_
  refine own_initO X0 hx hby hZ hml hown (ow_38 hw) (ow_39 hw) (ow_40 hw) e0 rfl od_jdk_68_method_2_1 (pc' := 4) rfl (by decide) (W := 0) (Nat.le_refl _) (by decide) ?_
  intro T1 X1 e1
  refine own_getS X1 hx hby hZ hown (host := "") (Or.inl (ow_41 hw)) Via.refl e1 S_cs od_jdk_68_method_2_4 (pc' := 7) rfl ?_
  intro T2 X2 e2
  refine own_ifN X2 hx hby od_jdk_68_method_2_7 (pc' := 10) rfl (feq P5).1 ?_
  refine own_aloadN X2 hx hby od_jdk_68_method_2_10 (pc' := 11) rfl rfl rfl ?_
  refine own_iloadN X2 hx hby od_jdk_68_method_2_11 (pc' := 12) rfl rfl ?_
  refine own_newPE (aty := .byte) X2 hx hby hZ (ow_3 hw) e2 od_jdk_68_method_2_12 (pc' := 14) rfl (own_n6 hn).1 (cap := 6) (by rw [(own_n6 hn).2.1]; exact hn) (by decide) (by decide) (by decide) (ad := "[B") (by decide) ?_
  intro T3 h3 b3 kA3 g3 X3 e3 E3 V_b3 EA_b3
  have le4 : h0.size ≤ b3 := Nat.le_of_eq g3.symm
  have n0_b3 : n0 ≤ b3 := Nat.le_trans (Nat.le_trans Z0 K0.1) (Nat.le_of_eq g3.symm)
  have le5 : h0.size ≤ b3 := Nat.le_trans K0.1 (Nat.le_of_eq g3.symm)
  have K6 := K0.ext E3
  replace V_b3 : Arv Z h3 b3 kA3 .byte (Int32.ofNat n) [] (.int (0 : Int32)) := V_b3
  replace A_s := A_s.ext E3
  replace S_cs := S_cs.ext E3
  replace F_value := F_value.ext E3
  replace F_coder := F_coder.ext E3
  replace F_count := F_count.ext E3
  refine own_putF X3 hx hby hZ hown (host := "") (Or.inl (ow_42 hw)) Via.refl e3 F_value A_s (Or.inl (ow_43 hw)) (ow_14 hw) (ty := (.array .byte)) (by decide) rfl rfl od_jdk_68_method_2_14 (pc' := 17) rfl ?_
  intro T7 h7 X7 e7 W7 F7_value_sb A7_sb
  have Fw7_8 := S_cs.wr W7
  have Fw7_9 := F_coder.other W7 (Or.inr (slot_ne (Or.inl (ow_45 hw)) (Or.inl (ow_43 hw)) (by decide) (t := .byte) (t' := (.array .byte)) (by decide) (by decide)))
  have Fw7_10 := F_count.other W7 (Or.inr (slot_ne (Or.inl (ow_75 hw)) (Or.inl (ow_43 hw)) (by decide) (t := .int) (t' := (.array .byte)) (by decide) (by decide)))
  have Fw7_11 := V_b3.other W7 (Ne.symm (Nat.ne_of_lt (Nat.lt_of_lt_of_le lts le5)))
  have Fw7_12 := EA_b3.wr W7
  have K13 := K6.wr W7 (Or.inl (List.mem_of_getElem? (i := 0) rfl))
  have N7 := own_fr1 (sl := Jvm.RoadKit.slotOf Z "java/lang/AbstractStringBuilder" "value" "[B") N0 n0_sb
  refine own_aloadN X7 hx hby od_jdk_68_method_2_17 (pc' := 18) rfl rfl rfl ?_
  refine own_iconst X7 hx hby od_jdk_68_method_2_18 (pc' := 19) rfl (z := 0) rfl ?_
  refine own_putFN X7 hx hby hZ hown (ow_44 hw) Via.refl e7 Fw7_9 A7_sb (Or.inl (ow_45 hw)) (ow_14 hw) (ty := .byte) (v' := (.int (0 : Int32))) (by decide) rfl rfl od_jdk_68_method_2_19 (pc' := 22) rfl ?_
  intro T14 h14 X14 e14 W14 F14_coder_sb A14_sb
  have Fw14_15 := F7_value_sb.other W14 (Or.inr (slot_ne (Or.inl (ow_43 hw)) (Or.inl (ow_45 hw)) (by decide) (t := (.array .byte)) (t' := .byte) (by decide) (by decide)))
  have Fw14_16 := Fw7_8.wr W14
  have Fw14_17 := Fw7_10.other W14 (Or.inr (slot_ne (Or.inl (ow_75 hw)) (Or.inl (ow_45 hw)) (by decide) (t := .int) (t' := .byte) (by decide) (by decide)))
  have Fw14_18 := Fw7_11.other W14 (Ne.symm (Nat.ne_of_lt (Nat.lt_of_lt_of_le lts le5)))
  have Fw14_19 := Fw7_12.wr W14
  have K20 := K13.wr W14 (Or.inl (List.mem_of_getElem? (i := 0) rfl))
  have N14 := own_fr1 (sl := Jvm.RoadKit.slotOf Z "java/lang/AbstractStringBuilder" "coder" "B") N7 n0_sb
  refine own_goto X14 hx hby od_jdk_68_method_2_22 (by decide) (pc' := 38) (by decide) ?_
  exact own_ret0 X14 hx hby hlk hrt od_jdk_68_method_2_38 (by first | exact ⟨b3, _, rfl, le5, n0_b3, N14, K20, A14_sb, Fw14_15, F14_coder_sb, Fw14_17, Fw14_18, Fw14_19, (by simp), Nat.zero_le _, hn⟩ | (rw [e14]; exact ⟨b3, _, rfl, le5, n0_b3, N14, K20, A14_sb, Fw14_15, F14_coder_sb, Fw14_17, Fw14_18, Fw14_19, (by simp), Nat.zero_le _, hn⟩)) (by decide) (by decide)
theorem ef_rm_sb (m : MethodId) (x0 : Addr) (x1 : Int32) : entryFrame m #[(.ref x0), (.int x1)] 2 = mkF m 0 #[.val (.ref x0), .val (.int x1)] [] := by first | (simp [entryFrame, mkF, argsToLocals, Value.category]; done) | rfl
set_option maxRecDepth 65536 in
set_option maxHeartbeats 40000000 in
theorem rm_sb (l : Launch) (Z : State) (a0 : Array Value) (hw : ∀ d ∈ tables_1, d.before a0 Z = true) (sb : Addr) (n : Nat) (G1 : Int32) (h0 : Heap) (n0 : Nat) (Z0 : n0 ≤ h0.size) (n0_sb : n0 ≤ sb) (A_s : Exa Z h0 sb "java/lang/StringBuilder") (F_value : Fld Z h0 sb "java/lang/AbstractStringBuilder" "value" "[B" .null) (F_coder : Fld Z h0 sb "java/lang/AbstractStringBuilder" "coder" "B" (.int (0 : Int32))) (F_count : Fld Z h0 sb "java/lang/AbstractStringBuilder" "count" "I" (.int (0 : Int32))) (S_cs : Sta Z h0 "java/lang/String" "COMPACT_STRINGS" "Z" (.int G1)) (P5 : ¬ (G1 = (0 : Int32))) (hn : n ≤ 6) :
    own_Met l Z (⟨"java/lang/StringBuilder", "<init>", "(I)V"⟩ : MethodName) jdk_67_method_2_code 2 none ({ frames := 2, cells := 1, slots := 6, locals := 25 } : Room) #[(.ref sb), (.int (Int32.ofNat n))] h0 (fun v h L => ∃ (vb : Addr) (kb : ClassId), v = none ∧ h0.size ≤ vb ∧ n0 ≤ vb ∧ Fr n0 L ∧ Keep h0 h [sb] ∧ own_SB Z h sb vb kb [] n) := by
  refine own_body (plainFor_of_name (by first | (simp [plainName, overriddenIn]; done) | decide +kernel)) ?_
  intro p e s m below meth c s₁ hx hby hml hown hnm hlk hrt hZ X0 e0
  refine own_enter (ef_rm_sb m sb (Int32.ofNat n)) ?_
  have N0 := Fr.nil n0
  refine own_aloadN X0 hx hby od_jdk_67_method_2_0 (pc' := 1) rfl rfl rfl ?_
  refine own_iloadN X0 hx hby od_jdk_67_method_2_1 (pc' := 2) rfl rfl ?_
  refine own_specM X0 hx hby hml hZ hown rfl (ow_32 hw) (ow_33 hw) (ow_36 hw) (ow_37 hw) (by decide) (cc := 1) (ss := 6) (rm_asb l Z a0 hw sb n G1 h0 n0 Z0 n0_sb A_s F_value F_coder F_count S_cs P5 hn) 0 rfl rfl (by decide) (by decide) rfl (argsL := [(.int (Int32.ofNat n))]) (rest := []) opd_4 rfl rfl (Nat.le_refl _) od_jdk_67_method_2_2 (pc' := 5) rfl rfl e0 (by decide) (by decide) ?_
  rintro v1 T1 h1 L1 X1 e1 ⟨vb, kb, rfl, q1, q2, Nq1, q3⟩
  have N1 := N0.app Nq1
  exact own_ret0 X1 hx hby hlk hrt od_jdk_67_method_2_5 (by first | exact ⟨vb, kb, rfl, q1, q2, N1, q3⟩ | (rw [e1]; exact ⟨vb, kb, rfl, q1, q2, N1, q3⟩)) (by decide) (by decide)
theorem ef_rm_min (m : MethodId) (x0 : Int32) (x1 : Int32) : entryFrame m #[(.int x0), (.int x1)] 2 = mkF m 0 #[.val (.int x0), .val (.int x1)] [] := by first | (simp [entryFrame, mkF, argsToLocals, Value.category]; done) | rfl
set_option maxRecDepth 65536 in
set_option maxHeartbeats 40000000 in
theorem rm_min (l : Launch) (Z : State) (a0 : Array Value) (hw : ∀ d ∈ tables_1, d.before a0 Z = true) (p1 p2 : Int32) (h0 : Heap) (n0 : Nat) (Z0 : n0 ≤ h0.size) (hc : p2 < p1) :
    own_Met l Z (⟨"java/lang/Math", "min", "(II)I"⟩ : MethodName) jdk_29_method_69_code 2 (some .int) ({ frames := 0, cells := 0, slots := 0, locals := 0 } : Room) #[(.int p1), (.int p2)] h0 (fun v h L => v = some (.int p2) ∧ Fr n0 L ∧ h0 = h) := by
  refine own_body (Jvm.Free.JP.mathPlain rfl (by decide +kernel)) ?_
  intro p e s m below meth c s₁ hx hby hml hown hnm hlk hrt hZ X0 e0
  refine own_enter (ef_rm_min m p1 p2) ?_
  have N0 := Fr.nil n0
  refine own_iloadN X0 hx hby od_jdk_29_method_69_0 (pc' := 1) rfl rfl ?_
  refine own_iloadN X0 hx hby od_jdk_29_method_69_1 (pc' := 2) rfl rfl ?_
  refine own_icmpY X0 hx hby od_jdk_29_method_69_2 (by decide) (pc' := 9) (by decide) (tlt hc).2.2.1 ?_
  refine own_iloadN X0 hx hby od_jdk_29_method_69_9 (pc' := 10) rfl rfl ?_
  exact own_retI X0 hx hby hlk hrt od_jdk_29_method_69_10 (by first | exact ⟨rfl, N0, rfl⟩ | (rw [e0]; exact ⟨rfl, N0, rfl⟩)) (by decide) (by decide)
theorem ef_rm_ckl (m : MethodId) (x0 : Int32) (x1 : Int32) : entryFrame m #[(.int x0), (.int x1)] 2 = mkF m 0 #[.val (.int x0), .val (.int x1)] [] := by first | (simp [entryFrame, mkF, argsToLocals, Value.category]; done) | rfl
set_option maxRecDepth 65536 in
set_option maxHeartbeats 40000000 in
theorem rm_ckl (l : Launch) (Z : State) (a0 : Array Value) (hw : ∀ d ∈ tables_1, d.before a0 Z = true) (p2 : Int32) (h0 : Heap) (n0 : Nat) (Z0 : n0 ≤ h0.size) (hc : ¬ p2 < (0 : Int32)) :
    own_Met l Z (⟨"java/util/Arrays", "checkLength", "(II)V"⟩ : MethodName) jdk_65_method_131_code 2 none ({ frames := 0, cells := 0, slots := 0, locals := 0 } : Room) #[(.int (0 : Int32)), (.int p2)] h0 (fun v h L => v = none ∧ Fr n0 L ∧ h0 = h) := by
  refine own_body (plainFor_of_name (by first | (simp [plainName, overriddenIn]; done) | decide +kernel)) ?_
  intro p e s m below meth c s₁ hx hby hml hown hnm hlk hrt hZ X0 e0
  refine own_enter (ef_rm_ckl m (0 : Int32) p2) ?_
  have N0 := Fr.nil n0
  refine own_iloadN X0 hx hby od_jdk_65_method_131_0 (pc' := 1) rfl rfl ?_
  refine own_iloadN X0 hx hby od_jdk_65_method_131_1 (pc' := 2) rfl rfl ?_
  refine own_icmpY X0 hx hby od_jdk_65_method_131_2 (by decide) (pc' := 37) (by decide) (flt hc).2.1 ?_
  exact own_ret0 X0 hx hby hlk hrt od_jdk_65_method_131_37 (by first | exact ⟨rfl, N0, rfl⟩ | (rw [e0]; exact ⟨rfl, N0, rfl⟩)) (by decide) (by decide)
theorem ef_rm_crb (m : MethodId) (x0 : Addr) (x1 : Int32) (x2 : Int32) : entryFrame m #[(.ref x0), (.int x1), (.int x2)] 5 = mkF m 0 #[.val (.ref x0), .val (.int x1), .val (.int x2), .unset, .unset] [] := by first | (simp [entryFrame, mkF, argsToLocals, Value.category]; done) | rfl
set_option maxRecDepth 65536 in
set_option maxHeartbeats 40000000 in
theorem rm_crb (l : Launch) (Z : State) (a0 : Array Value) (hw : ∀ d ∈ tables_1, d.before a0 Z = true) (sb vb : Addr) (kb : ClassId) (ds : List Int32) (n : Nat) (h0 : Heap) (n0 : Nat) (Z0 : n0 ≤ h0.size) (B : own_SB Z h0 sb vb kb ds n) (hne : ds.length ≠ n) :
    own_Met l Z (⟨"java/util/Arrays", "copyOfRangeByte", "([BII)[B"⟩ : MethodName) jdk_65_method_133_code 5 (some (.array .byte)) ({ frames := 1, cells := 1, slots := 6, locals := 40 } : Room) #[(.ref vb), (.int (0 : Int32)), (.int (Int32.ofNat ds.length))] h0 (fun v h L => ∃ (b : Addr) (kA : ClassId), v = some (.ref b) ∧ n0 ≤ b ∧ h0.size ≤ b ∧ Ext h0 h ∧ Fr n0 L ∧ Arv Z h b kA .byte (Int32.ofNat ds.length) (own_by ds) (.int (0 : Int32))) := by
  refine own_body (plainFor_of_name (by first | (simp [plainName, overriddenIn]; done) | decide +kernel)) ?_
  intro p e s m below meth c s₁ hx hby hml hown hnm hlk hrt hZ X0 e0
  refine own_enter (ef_rm_crb m vb (0 : Int32) (Int32.ofNat ds.length)) ?_
  have N0 := Fr.nil n0
  obtain ⟨A_s, F_v, F_c, F_n, V_b, A_b, hb, hk, hn⟩ := B
  refine own_iloadN X0 hx hby od_jdk_65_method_133_0 (pc' := 1) rfl rfl ?_
  refine own_iloadN X0 hx hby od_jdk_65_method_133_1 (pc' := 2) rfl rfl ?_
  refine own_callM X0 hx hby hml hZ hown (ow_177 hw) (ow_178 hw) (ow_83 hw) (ow_179 hw) (by decide) (cc := 0) (ss := 0) (rm_ckl l Z a0 hw (Int32.ofNat ds.length) h0 n0 Z0 (own_n6 (Nat.le_trans hk hn)).1) 0 rfl rfl (by decide) (by decide) rfl (argsL := [(.int (0 : Int32)), (.int (Int32.ofNat ds.length))]) (rest := []) opd_7 rfl rfl (Nat.le_refl _) od_jdk_65_method_133_2 (pc' := 5) rfl rfl e0 (by decide) (by decide) ?_
  rintro v1 T1 h1 L1 X1 e1 ⟨rfl, Nq1, rfl⟩
  have N1 := N0.app Nq1
  refine own_iloadN X1 hx hby od_jdk_65_method_133_5 (pc' := 6) rfl rfl ?_
  refine own_iloadN X1 hx hby od_jdk_65_method_133_6 (pc' := 7) rfl rfl ?_
  refine own_isub X1 hx hby od_jdk_65_method_133_7 (pc' := 8) rfl ?_
  rw [show (Int32.ofNat ds.length) - (0 : Int32) = (Int32.ofNat ds.length) from Int32.sub_zero _]
  refine own_istoreN X1 hx hby od_jdk_65_method_133_8 (pc' := 9) rfl (Ls' := #[.val (.ref vb), .val (.int (0 : Int32)), .val (.int (Int32.ofNat ds.length)), .val (.int (Int32.ofNat ds.length)), .unset]) rfl ?_
  refine own_iloadN X1 hx hby od_jdk_65_method_133_9 (pc' := 10) rfl rfl ?_
  refine own_newPE (aty := .byte) X1 hx hby hZ (ow_3 hw) e1 od_jdk_65_method_133_10 (pc' := 12) rfl (own_n6 (Nat.le_trans hk hn)).1 (cap := 6) (by rw [(own_n6 (Nat.le_trans hk hn)).2.1]; exact Nat.le_trans hk hn) (by decide) (by decide) (by decide) (ad := "[B") (by decide) ?_
  intro T2 h2 b2 kA2 g2 X2 e2 E2 V_b2 EA_b2
  have le3 : h0.size ≤ b2 := Nat.le_of_eq g2.symm
  have n0_b2 : n0 ≤ b2 := Nat.le_trans Z0 (Nat.le_of_eq g2.symm)
  replace V_b2 : Arv Z h2 b2 kA2 .byte (Int32.ofNat ds.length) [] (.int (0 : Int32)) := V_b2
  refine own_astore X2 hx hby od_jdk_65_method_133_12 (pc' := 14) rfl rfl (Ls' := #[.val (.ref vb), .val (.int (0 : Int32)), .val (.int (Int32.ofNat ds.length)), .val (.int (Int32.ofNat ds.length)), .val (.ref b2)]) rfl ?_
  refine own_aloadN X2 hx hby od_jdk_65_method_133_14 (pc' := 15) rfl rfl rfl ?_
  refine own_iloadN X2 hx hby od_jdk_65_method_133_15 (pc' := 16) rfl rfl ?_
  refine own_aload X2 hx hby od_jdk_65_method_133_16 (pc' := 18) rfl rfl rfl ?_
  refine own_iconst X2 hx hby od_jdk_65_method_133_18 (pc' := 19) rfl (z := 0) rfl ?_
  refine own_aloadN X2 hx hby od_jdk_65_method_133_19 (pc' := 20) rfl rfl rfl ?_
  refine own_alenV X2 hx hby hZ e2 (V_b.ext E2) od_jdk_65_method_133_20 (pc' := 21) rfl ?_
  refine own_iloadN X2 hx hby od_jdk_65_method_133_21 (pc' := 22) rfl rfl ?_
  refine own_isub X2 hx hby od_jdk_65_method_133_22 (pc' := 23) rfl ?_
  refine own_iloadN X2 hx hby od_jdk_65_method_133_23 (pc' := 24) rfl rfl ?_
  rw [show (Int32.ofNat n) - (0 : Int32) = (Int32.ofNat n) from Int32.sub_zero _]
  refine own_callM X2 hx hby hml hZ hown (ow_180 hw) (ow_181 hw) (ow_182 hw) (ow_183 hw) (by decide) (cc := 0) (ss := 0) (rm_min l Z a0 hw (Int32.ofNat n) (Int32.ofNat ds.length) h2 n0 (Nat.le_trans Z0 E2.1) (own_lt6 (Nat.lt_of_le_of_ne hk hne) hn).2) 4 rfl rfl (by decide) (by decide) rfl (argsL := [(.int (Int32.ofNat n)), (.int (Int32.ofNat ds.length))]) (rest := [(.int (0 : Int32)), (.ref b2), (.int (0 : Int32)), (.ref vb)]) opd_8 rfl rfl (Nat.le_refl _) od_jdk_65_method_133_24 (pc' := 27) rfl rfl e2 (by decide) (by decide) ?_
  rintro v4 T4 h4 L4 X4 e4 ⟨rfl, Nq4, rfl⟩
  have N4 := N1.app Nq4
  have Vp := V_b2.pad (pad_rep _ _ ds.length)
  have k6 := (own_n6 (Nat.le_trans hk hn)).2.1
  refine own_cp X4 hx hby hZ hml hown (ow_184 hw) (ow_187 hw) (ow_185 hw) (ow_186 hw) e4 (V_b.ext E2) Vp rfl (by decide) (by decide) (own_n6 (Nat.le_trans hk hn)).1 (by rw [k6, (own_n6 hn).2.1]; show 0 + _ ≤ _; omega) (by rw [k6]; show 0 + _ ≤ _; omega) (us := own_by ds) (by rw [k6]; exact own_us (own_by_len ds)) (by rw [k6]; show 0 + _ ≤ _; simp) N4 n0_b2 rfl od_jdk_65_method_133_27 (pc' := 30) rfl (by decide) (W := 0) (by decide) (by decide) ?_
  intro T5 h5 L5 X5 e5 N5 K5 V5_b
  have Ea6 := own_xk E2 K5 (allS le3 all0)
  have V9 : Arv Z h5 b2 kA2 .byte (Int32.ofNat ds.length) (own_by ds) (.int (0 : Int32)) := by
    rw [k6] at V5_b
    simpa using V5_b
  refine own_aload X5 hx hby od_jdk_65_method_133_30 (pc' := 32) rfl rfl rfl ?_
  exact own_retA X5 hx hby hlk hrt rfl rfl od_jdk_65_method_133_32 (by first | exact ⟨b2, _, rfl, n0_b2, le3, Ea6, N5, V9⟩ | (rw [e5]; exact ⟨b2, _, rfl, n0_b2, le3, Ea6, N5, V9⟩)) (by decide) (by decide)
theorem ef_rm_cor (m : MethodId) (x0 : Addr) (x1 : Int32) (x2 : Int32) : entryFrame m #[(.ref x0), (.int x1), (.int x2)] 3 = mkF m 0 #[.val (.ref x0), .val (.int x1), .val (.int x2)] [] := by first | (simp [entryFrame, mkF, argsToLocals, Value.category]; done) | rfl
set_option maxRecDepth 65536 in
set_option maxHeartbeats 40000000 in
theorem rm_cor (l : Launch) (Z : State) (a0 : Array Value) (hw : ∀ d ∈ tables_1, d.before a0 Z = true) (sb vb : Addr) (kb : ClassId) (ds : List Int32) (n : Nat) (h0 : Heap) (n0 : Nat) (Z0 : n0 ≤ h0.size) (B : own_SB Z h0 sb vb kb ds n) :
    own_Met l Z (⟨"java/util/Arrays", "copyOfRange", "([BII)[B"⟩ : MethodName) jdk_65_method_132_code 3 (some (.array .byte)) ({ frames := 2, cells := 1, slots := 6, locals := 56 } : Room) #[(.ref vb), (.int (0 : Int32)), (.int (Int32.ofNat ds.length))] h0 (fun v h L => ∃ (b : Addr) (kA : ClassId), v = some (.ref b) ∧ n0 ≤ b ∧ h0.size ≤ b ∧ Ext h0 h ∧ Fr n0 L ∧ Arv Z h b kA .byte (Int32.ofNat ds.length) (own_by ds) (.int (0 : Int32))) := by
  refine own_body (plainFor_of_name (by first | (simp [plainName, overriddenIn]; done) | decide +kernel)) ?_
  intro p e s m below meth c s₁ hx hby hml hown hnm hlk hrt hZ X0 e0
  refine own_enter (ef_rm_cor m vb (0 : Int32) (Int32.ofNat ds.length)) ?_
  have N0 := Fr.nil n0
  have B0 := B
  obtain ⟨A_s, F_v, F_c, F_n, V_b, A_b, hb, hk, hn⟩ := B
  refine own_iloadN X0 hx hby od_jdk_65_method_132_0 (pc' := 1) rfl rfl ?_
  refine own_ifN X0 hx hby od_jdk_65_method_132_1 (pc' := 4) rfl (teq rfl).2 ?_
  refine own_iloadN X0 hx hby od_jdk_65_method_132_4 (pc' := 5) rfl rfl ?_
  refine own_aloadN X0 hx hby od_jdk_65_method_132_5 (pc' := 6) rfl rfl rfl ?_
  refine own_alenV X0 hx hby hZ e0 V_b od_jdk_65_method_132_6 (pc' := 7) rfl ?_
  by_cases hc : (Int32.ofNat ds.length) = (Int32.ofNat n)
  · refine own_icmpY X0 hx hby od_jdk_65_method_132_7 (by decide) (pc' := 17) (by decide) (teq hc).1 ?_
    refine own_aloadN X0 hx hby od_jdk_65_method_132_17 (pc' := 18) rfl rfl rfl ?_
    refine own_clone X0 hx hby hZ hml hown (ow_85 hw) (ow_86 hw) (ow_90 hw) (ow_88 hw) (ow_89 hw) (ow_91 hw) e0 V_b A_b rfl od_jdk_65_method_132_18 (pc' := 21) rfl (by decide) (W := 0) (by decide) (by decide) (cap := 6) (by rw [(own_n6 hn).2.1]; exact hn) (by decide) (by decide) ?_
    intro T1 h1 b1 g1 X1 e1 E1 V_b1 EA_b1
    have le2 : h0.size ≤ b1 := Nat.le_of_eq g1.symm
    have n0_b1 : n0 ≤ b1 := Nat.le_trans Z0 (Nat.le_of_eq g1.symm)
    have leq : h0.size ≤ b1 := Nat.le_of_eq g1.symm
    refine own_cast X1 hx hby hZ hown (ow_92 hw) e1 (Ins.self EA_b1) od_jdk_65_method_132_21 (pc' := 24) rfl ?_
    intro T3 X3 e3
    exact own_retA X3 hx hby hlk hrt rfl rfl od_jdk_65_method_132_24 (by first | exact ⟨b1, _, rfl, n0_b1, leq, E1, N0, (by rw [hc]; exact V_b1)⟩ | (rw [e3]; exact ⟨b1, _, rfl, n0_b1, leq, E1, N0, (by rw [hc]; exact V_b1)⟩)) (by decide) (by decide)
  · refine own_icmpN X0 hx hby od_jdk_65_method_132_7 (pc' := 10) rfl (feq hc).1 ?_
    refine own_aloadN X0 hx hby od_jdk_65_method_132_10 (pc' := 11) rfl rfl rfl ?_
    refine own_iloadN X0 hx hby od_jdk_65_method_132_11 (pc' := 12) rfl rfl ?_
    refine own_iloadN X0 hx hby od_jdk_65_method_132_12 (pc' := 13) rfl rfl ?_
    refine own_callM X0 hx hby hml hZ hown (ow_174 hw) (ow_175 hw) (ow_83 hw) (ow_176 hw) (by decide) (cc := 1) (ss := 6) (rm_crb l Z a0 hw sb vb kb ds n h0 n0 Z0 B0 (fun q => hc (by rw [q]))) 0 rfl rfl (by decide) (by decide) rfl (argsL := [(.ref vb), (.int (0 : Int32)), (.int (Int32.ofNat ds.length))]) (rest := []) opd_9 rfl rfl (Nat.le_refl _) od_jdk_65_method_132_13 (pc' := 16) rfl rfl e0 (by decide) (by decide) ?_
    rintro v4 T4 h4 L4 X4 e4 ⟨b, kA, rfl, q1, q2, q3, Nq4, q4⟩
    have N4 := N0.app Nq4
    exact own_retA X4 hx hby hlk hrt rfl rfl od_jdk_65_method_132_16 (by first | exact ⟨b, kA, rfl, q1, q2, q3, N4, q4⟩ | (rw [e4]; exact ⟨b, kA, rfl, q1, q2, q3, N4, q4⟩)) (by decide) (by decide)
theorem ef_rm_sia (m : MethodId) (x0 : Addr) (x1 : Addr) : entryFrame m #[(.ref x0), (.ref x1), .null] 5 = mkF m 0 #[.val (.ref x0), .val (.ref x1), .val .null, .unset, .unset] [] := by first | (simp [entryFrame, mkF, argsToLocals, Value.category]; done) | rfl
set_option maxRecDepth 65536 in
set_option maxHeartbeats 40000000 in
theorem rm_sia (l : Launch) (Z : State) (a0 : Array Value) (hw : ∀ d ∈ tables_1, d.before a0 Z = true) (a1 : Addr) (sb vb : Addr) (kb : ClassId) (ds : List Int32) (n : Nat) (G1 : Int32) (h0 : Heap) (n0 : Nat) (Z0 : n0 ≤ h0.size) (n0_a1 : n0 ≤ a1) (A1 : Exa Z h0 a1 "java/lang/String") (F1 : Fld Z h0 a1 "java/lang/String" "value" "[B" .null) (F2 : Fld Z h0 a1 "java/lang/String" "coder" "B" (.int (0 : Int32))) (B : own_SB Z h0 sb vb kb ds n) (S_cs : Sta Z h0 "java/lang/String" "COMPACT_STRINGS" "Z" (.int G1)) (P5 : ¬ (G1 = (0 : Int32))) :
    own_Met l Z (⟨"java/lang/String", "<init>", "(Ljava/lang/AbstractStringBuilder;Ljava/lang/Void;)V"⟩ : MethodName) jdk_42_method_150_code 5 none ({ frames := 3, cells := 1, slots := 6, locals := 71 } : Room) #[(.ref a1), (.ref sb), .null] h0 (fun v h L => v = none ∧ Fr n0 L ∧ Keep h0 h [a1] ∧ own_Str Z h a1 ds) := by
  refine own_body (plainFor_of_name (by first | (simp [plainName, overriddenIn]; done) | decide +kernel)) ?_
  intro p e s m below meth c s₁ hx hby hml hown hnm hlk hrt hZ X0 e0
  refine own_enter (ef_rm_sia m a1 sb) ?_
  have N0 := Fr.nil n0
  have B0 := B
  obtain ⟨A_s, F_v, F_c, F_n, V_b, A_b, hb, hk, hn⟩ := B
  have ne1 : sb ≠ a1 := (Exa.ne A1 A_s (by decide)).symm
  have ne2 : vb ≠ a1 := (Exa.neArv A1 V_b (ow_2 hw)).symm
  have lta := A1.lt
  have K0 := Keep.refl h0 [a1]
  refine own_aloadN X0 hx hby od_jdk_42_method_150_0 (pc' := 1) rfl rfl rfl ?_
  refine own_initO X0 hx hby hZ hml hown (ow_59 hw) (ow_39 hw) (ow_40 hw) e0 rfl od_jdk_42_method_150_1 (pc' := 4) rfl (by decide) (W := 0) (Nat.le_refl _) (by decide) ?_
  intro T1 X1 e1
  refine own_aloadN X1 hx hby od_jdk_42_method_150_4 (pc' := 5) rfl rfl rfl ?_
  refine own_virtM X1 hx hby hml hZ hown (ow_60 hw) (ow_61 hw) (notFace_of_selects (args := #[]) (mvT hZ (ow_63 hw))) (ow_63 hw) (ow_62 hw) (ow_36 hw) (ow_64 hw) (by decide) (cc := 0) (ss := 0) (rm_gv l Z a0 hw sb vb kb ds n h0 n0 Z0 B0) 0 rfl rfl (by decide) (by decide) rfl A_s (argsL := []) (rest := []) opd_10 rfl rfl (Nat.le_refl _) od_jdk_42_method_150_5 (pc' := 8) rfl rfl e1 (by decide) (by decide) ?_
  rintro v2 T2 h2 L2 X2 e2 ⟨rfl, Nq2, rfl⟩
  have N2 := N0.app Nq2
  refine own_astoreN X2 hx hby od_jdk_42_method_150_8 (pc' := 9) rfl rfl (Ls' := #[.val (.ref a1), .val (.ref sb), .val .null, .val (.ref vb), .unset]) rfl ?_
  refine own_aloadN X2 hx hby od_jdk_42_method_150_9 (pc' := 10) rfl rfl rfl ?_
  refine own_virtM X2 hx hby hml hZ hown (ow_65 hw) (ow_66 hw) (own_nfs (args := #[]) (mvT hZ (ow_63 hw)) rfl) (ow_68 hw) (ow_69 hw) (ow_15 hw) (ow_70 hw) (by decide) (cc := 0) (ss := 0) (rm_slen l Z a0 hw sb vb kb ds n h0 n0 Z0 B0) 0 rfl rfl (by decide) (by decide) rfl A_s (argsL := []) (rest := []) opd_3 rfl rfl (Nat.le_refl _) od_jdk_42_method_150_10 (pc' := 13) rfl rfl e2 (by decide) (by decide) ?_
  rintro v3 T3 h3 L3 X3 e3 ⟨rfl, Nq3, rfl⟩
  have N3 := N2.app Nq3
  refine own_istore X3 hx hby od_jdk_42_method_150_13 (pc' := 15) rfl (Ls' := #[.val (.ref a1), .val (.ref sb), .val .null, .val (.ref vb), .val (.int (Int32.ofNat ds.length))]) rfl ?_
  refine own_aloadN X3 hx hby od_jdk_42_method_150_15 (pc' := 16) rfl rfl rfl ?_
  refine own_virtM X3 hx hby hml hZ hown (ow_76 hw) (ow_77 hw) (notFace_of_selects (args := #[]) (mvT hZ (ow_79 hw))) (ow_79 hw) (ow_78 hw) (ow_36 hw) (ow_80 hw) (by decide) (cc := 0) (ss := 0) (rm_isL l Z a0 hw sb vb kb ds n G1 h0 n0 Z0 B0 S_cs P5) 0 rfl rfl (by decide) (by decide) rfl A_s (argsL := []) (rest := []) opd_5 rfl rfl (Nat.le_refl _) od_jdk_42_method_150_16 (pc' := 19) rfl rfl e3 (by decide) (by decide) ?_
  rintro v4 T4 h4 L4 X4 e4 ⟨rfl, Nq4, rfl⟩
  have N4 := N3.app Nq4
  refine own_ifN X4 hx hby od_jdk_42_method_150_19 (pc' := 22) rfl (feq (by decide)).1 ?_
  refine own_aloadN X4 hx hby od_jdk_42_method_150_22 (pc' := 23) rfl rfl rfl ?_
  refine own_iconst X4 hx hby od_jdk_42_method_150_23 (pc' := 24) rfl (z := 0) rfl ?_
  refine own_putFN X4 hx hby hZ hown (ow_28 hw) Via.refl e4 F2 A1 (Or.inr ⟨(ow_5 hw), rfl, hnm⟩) (ow_2 hw) (ty := .byte) (v' := (.int (0 : Int32))) (by decide) rfl rfl od_jdk_42_method_150_24 (pc' := 27) rfl ?_
  intro T5 h5 X5 e5 W5 F5_coder_a1 A5_a1
  have Fw5_6 := A_s.wr W5
  have Fw5_7 := F_v.other W5 (Or.inl ne1)
  have Fw5_8 := F_c.other W5 (Or.inl ne1)
  have Fw5_9 := F_n.other W5 (Or.inl ne1)
  have Fw5_10 := V_b.other W5 ne2
  have Fw5_11 := A_b.wr W5
  have Fw5_12 := S_cs.wr W5
  have Fw5_13 := F1.other W5 (Or.inr (slot_ne (Or.inr (ow_4 hw)) (Or.inr (ow_5 hw)) (by decide) (t := (.array .byte)) (t' := .byte) (by decide) (by decide)))
  have K14 := K0.wr W5 (Or.inl (List.mem_of_getElem? (i := 0) rfl))
  have N5 := own_fr1 (sl := Jvm.RoadKit.slotOf Z "java/lang/String" "coder" "B") N4 n0_a1
  have B1 := B0.wr W5 ne1 ne2
  refine own_aloadN X5 hx hby od_jdk_42_method_150_27 (pc' := 28) rfl rfl rfl ?_
  refine own_aloadN X5 hx hby od_jdk_42_method_150_28 (pc' := 29) rfl rfl rfl ?_
  refine own_iconst X5 hx hby od_jdk_42_method_150_29 (pc' := 30) rfl (z := 0) rfl ?_
  refine own_iload X5 hx hby od_jdk_42_method_150_30 (pc' := 32) rfl rfl ?_
  refine own_callM X5 hx hby hml hZ hown (ow_81 hw) (ow_82 hw) (ow_83 hw) (ow_84 hw) (by decide) (cc := 1) (ss := 6) (rm_cor l Z a0 hw sb vb kb ds n h5 n0 (Nat.le_trans Z0 K14.1) B1) 1 rfl rfl (by decide) (by decide) rfl (argsL := [(.ref vb), (.int (0 : Int32)), (.int (Int32.ofNat ds.length))]) (rest := [(.ref a1)]) opd_9 rfl rfl (Nat.le_refl _) od_jdk_42_method_150_32 (pc' := 35) rfl rfl e5 (by decide) (by decide) ?_
  rintro v15 T15 h15 L15 X15 e15 ⟨b, kA, rfl, q1, q2, Eq15, Nq15, Vb⟩
  have neb : b ≠ a1 := Ne.symm (Nat.ne_of_lt (Nat.lt_of_lt_of_le A5_a1.lt q2))
  have N15 := N5.app Nq15
  have K16 := K14.ext Eq15
  replace F5_coder_a1 := F5_coder_a1.ext Eq15
  replace A5_a1 := A5_a1.ext Eq15
  replace Fw5_6 := Fw5_6.ext Eq15
  replace Fw5_7 := Fw5_7.ext Eq15
  replace Fw5_8 := Fw5_8.ext Eq15
  replace Fw5_9 := Fw5_9.ext Eq15
  replace Fw5_10 := Fw5_10.ext Eq15
  replace Fw5_11 := Fw5_11.ext Eq15
  replace Fw5_12 := Fw5_12.ext Eq15
  replace Fw5_13 := Fw5_13.ext Eq15
  refine own_putF X15 hx hby hZ hown (host := "") (Or.inl (ow_21 hw)) Via.refl e15 Fw5_13 A5_a1 (Or.inr ⟨(ow_4 hw), rfl, hnm⟩) (ow_2 hw) (ty := (.array .byte)) (by decide) rfl rfl od_jdk_42_method_150_35 (pc' := 38) rfl ?_
  intro T17 h17 X17 e17 W17 F17_value_a1 A17_a1
  have Fw17_18 := F5_coder_a1.other W17 (Or.inr (slot_ne (Or.inr (ow_5 hw)) (Or.inr (ow_4 hw)) (by decide) (t := .byte) (t' := (.array .byte)) (by decide) (by decide)))
  have Fw17_19 := Fw5_6.wr W17
  have Fw17_20 := Fw5_7.other W17 (Or.inl ne1)
  have Fw17_21 := Fw5_8.other W17 (Or.inl ne1)
  have Fw17_22 := Fw5_9.other W17 (Or.inl ne1)
  have Fw17_23 := Fw5_10.other W17 ne2
  have Fw17_24 := Fw5_11.wr W17
  have Fw17_25 := Fw5_12.wr W17
  have Fw17_26 := Vb.other W17 neb
  have K27 := K16.wr W17 (Or.inl (List.mem_of_getElem? (i := 0) rfl))
  have N17 := own_fr1 (sl := Jvm.RoadKit.slotOf Z "java/lang/String" "value" "[B") N15 n0_a1
  refine own_goto X17 hx hby od_jdk_42_method_150_38 (by decide) (pc' := 97) (by decide) ?_
  exact own_ret0 X17 hx hby hlk hrt od_jdk_42_method_150_97 (by first | exact ⟨rfl, N17, K27, A17_a1, Fw17_18, hb, b, kA, F17_value_a1, Fw17_26⟩ | (rw [e17]; exact ⟨rfl, N17, K27, A17_a1, Fw17_18, hb, b, kA, F17_value_a1, Fw17_26⟩)) (by decide) (by decide)
theorem ef_rm_sis (m : MethodId) (x0 : Addr) (x1 : Addr) : entryFrame m #[(.ref x0), (.ref x1)] 2 = mkF m 0 #[.val (.ref x0), .val (.ref x1)] [] := by first | (simp [entryFrame, mkF, argsToLocals, Value.category]; done) | rfl
set_option maxRecDepth 65536 in
set_option maxHeartbeats 40000000 in
theorem rm_sis (l : Launch) (Z : State) (a0 : Array Value) (hw : ∀ d ∈ tables_1, d.before a0 Z = true) (a1 : Addr) (sb vb : Addr) (kb : ClassId) (ds : List Int32) (n : Nat) (G1 : Int32) (h0 : Heap) (n0 : Nat) (Z0 : n0 ≤ h0.size) (n0_a1 : n0 ≤ a1) (A1 : Exa Z h0 a1 "java/lang/String") (F1 : Fld Z h0 a1 "java/lang/String" "value" "[B" .null) (F2 : Fld Z h0 a1 "java/lang/String" "coder" "B" (.int (0 : Int32))) (B : own_SB Z h0 sb vb kb ds n) (S_cs : Sta Z h0 "java/lang/String" "COMPACT_STRINGS" "Z" (.int G1)) (P5 : ¬ (G1 = (0 : Int32))) :
    own_Met l Z (⟨"java/lang/String", "<init>", "(Ljava/lang/StringBuilder;)V"⟩ : MethodName) jdk_42_method_53_code 2 none ({ frames := 4, cells := 1, slots := 6, locals := 87 } : Room) #[(.ref a1), (.ref sb)] h0 (fun v h L => v = none ∧ Fr n0 L ∧ Keep h0 h [a1] ∧ own_Str Z h a1 ds) := by
  refine own_body (plainFor_of_name (by first | (simp [plainName, overriddenIn]; done) | decide +kernel)) ?_
  intro p e s m below meth c s₁ hx hby hml hown hnm hlk hrt hZ X0 e0
  refine own_enter (ef_rm_sis m a1 sb) ?_
  have N0 := Fr.nil n0
  refine own_aloadN X0 hx hby od_jdk_42_method_53_0 (pc' := 1) rfl rfl rfl ?_
  refine own_aloadN X0 hx hby od_jdk_42_method_53_1 (pc' := 2) rfl rfl rfl ?_
  refine own_aconst_null X0 hx hby od_jdk_42_method_53_2 (pc' := 3) rfl ?_
  refine own_specM X0 hx hby hml hZ hown rfl (ow_56 hw) (ow_57 hw) (ow_1 hw) (ow_58 hw) (by decide) (cc := 1) (ss := 6) (rm_sia l Z a0 hw a1 sb vb kb ds n G1 h0 n0 Z0 n0_a1 A1 F1 F2 B S_cs P5) 0 rfl rfl (by decide) (by decide) rfl (argsL := [(.ref sb), .null]) (rest := []) opd_11 rfl rfl (Nat.le_refl _) od_jdk_42_method_53_3 (pc' := 6) rfl rfl e0 (by decide) (by decide) ?_
  rintro v1 T1 h1 L1 X1 e1 ⟨rfl, Nq1, Kq1, Sq⟩
  have N1 := N0.app Nq1
  exact own_ret0 X1 hx hby hlk hrt od_jdk_42_method_53_6 (by first | exact ⟨rfl, N1, Kq1, Sq⟩ | (rw [e1]; exact ⟨rfl, N1, Kq1, Sq⟩)) (by decide) (by decide)
theorem ef_rm_tos (m : MethodId) (x0 : Addr) : entryFrame m #[(.ref x0)] 1 = mkF m 0 #[.val (.ref x0)] [] := by first | (simp [entryFrame, mkF, argsToLocals, Value.category]; done) | rfl
set_option maxRecDepth 65536 in
set_option maxHeartbeats 40000000 in
theorem rm_tos (l : Launch) (Z : State) (a0 : Array Value) (hw : ∀ d ∈ tables_1, d.before a0 Z = true) (sb vb : Addr) (kb : ClassId) (ds : List Int32) (n : Nat) (G1 : Int32) (h0 : Heap) (n0 : Nat) (Z0 : n0 ≤ h0.size) (B : own_SB Z h0 sb vb kb ds n) (S_cs : Sta Z h0 "java/lang/String" "COMPACT_STRINGS" "Z" (.int G1)) (P5 : ¬ (G1 = (0 : Int32))) :
    own_Met l Z (⟨"java/lang/StringBuilder", "toString", "()Ljava/lang/String;"⟩ : MethodName) jdk_67_method_42_code 1 (some (.object "java/lang/String")) ({ frames := 5, cells := 2, slots := 10, locals := 101 } : Room) #[(.ref sb)] h0 (fun v h L => ∃ r : Addr, v = some (.ref r) ∧ Ext h0 h ∧ Fr n0 L ∧ own_Str Z h r ds) := by
  refine own_body (plainFor_of_name (by first | (simp [plainName, overriddenIn]; done) | decide +kernel)) ?_
  intro p e s m below meth c s₁ hx hby hml hown hnm hlk hrt hZ X0 e0
  refine own_enter (ef_rm_tos m sb) ?_
  have N0 := Fr.nil n0
  refine own_newO X0 hx hby hZ hown (ow_51 hw) (ow_2 hw) (ow_1 hw) e0 od_jdk_67_method_42_0 (pc' := 3) rfl (by decide) (by decide) ?_
  intro T1 h1 b1 g1 X1 e1 E1 AX1 D1
  have le2 : h0.size ≤ b1 := Nat.le_of_eq g1.symm
  have n0_b1 : n0 ≤ b1 := Nat.le_trans Z0 (Nat.le_of_eq g1.symm)
  have F_value_b1 : Fld Z h1 b1 "java/lang/String" "value" "[B" .null := D1 (Or.inr (ow_4 hw)) (ty := (.array .byte)) (by decide)
  have F_coder_b1 : Fld Z h1 b1 "java/lang/String" "coder" "B" (.int (0 : Int32)) := D1 (Or.inr (ow_5 hw)) (ty := .byte) (by decide)
  refine own_dup X1 hx hby od_jdk_67_method_42_3 (pc' := 4) rfl rfl ?_
  refine own_aloadN X1 hx hby od_jdk_67_method_42_4 (pc' := 5) rfl rfl rfl ?_
  refine own_specM X1 hx hby hml hZ hown rfl (ow_52 hw) (ow_53 hw) (ow_1 hw) (ow_55 hw) (by decide) (cc := 1) (ss := 6) (rm_sis l Z a0 hw b1 sb vb kb ds n G1 h1 n0 (Nat.le_trans Z0 E1.1) n0_b1 AX1 F_value_b1 F_coder_b1 (B.ext E1) (S_cs.ext E1) P5) 1 rfl rfl (by decide) (by decide) rfl (argsL := [(.ref sb)]) (rest := [(.ref b1)]) opd_12 rfl rfl (Nat.le_refl _) od_jdk_67_method_42_5 (pc' := 8) rfl rfl e1 (by decide) (by decide) ?_
  rintro v3 T3 h3 L3 X3 e3 ⟨rfl, Nq3, Kq3, Sq⟩
  have N3 := N0.app Nq3
  have Ea4 := own_xk E1 Kq3 (allS le2 all0)
  replace S_cs := S_cs.ext Ea4
  replace B := B.ext Ea4
  exact own_retA X3 hx hby hlk hrt rfl rfl od_jdk_67_method_42_8 (by first | exact ⟨b1, rfl, Ea4, N3, Sq⟩ | (rw [e3]; exact ⟨b1, rfl, Ea4, N3, Sq⟩)) (by decide) (by decide)
theorem ef_rm_une (m : MethodId) (x0 : Addr) (x1 : Addr) : entryFrame m #[(.ref x0), (.ref x1)] 6 = mkF m 0 #[.val (.ref x0), .val (.ref x1), .unset, .unset, .unset, .unset] [] := by first | (simp [entryFrame, mkF, argsToLocals, Value.category]; done) | rfl
set_option maxRecDepth 65536 in
set_option maxHeartbeats 40000000 in
theorem rm_une (l : Launch) (Z : State) (a0 : Array Value) (hw : ∀ d ∈ tables_1, d.before a0 Z = true) (nm a2 : Addr) (cs os : List Int32) (tks : List own_Tok) (G1 : Int32) (fm : Value) (h0 : Heap) (n0 : Nat) (Z0 : n0 ≤ h0.size) (S_cs : Sta Z h0 "java/lang/String" "COMPACT_STRINGS" "Z" (.int G1)) (P5 : ¬ (G1 = (0 : Int32))) (S_f : Sta Z h0 "jdk/internal/util/Preconditions" "SIOOBE_FORMATTER" "Ljava/util/function/BiFunction;" fm) (rf : fm.isRef = true) (S_n : own_Str Z h0 nm cs) (hl6 : cs.length ≤ 6) (hok : ∀ t ∈ tks, own_ok t) (hcs : cs = own_srcs tks) (ho : own_outs tks = os) :
    own_Met l Z (⟨"com/example/nisaba/nisaba/TsvFile", "unescape", "(Ljava/lang/String;Ljava/lang/String;)Ljava/lang/String;"⟩ : MethodName) prog_22_method_4_code 6 (some (.object "java/lang/String")) ({ frames := 6, cells := 4, slots := 20, locals := 113 } : Room) #[(.ref nm), (.ref a2)] h0 (fun v h L => ∃ r : Addr, v = some (.ref r) ∧ Ext h0 h ∧ Fr n0 L ∧ own_Str Z h r os) := by
  refine own_body (plainFor_of_name (by first | (simp [plainName, overriddenIn]; done) | decide +kernel)) ?_
  intro p e s m below meth c s₁ hx hby hml hown hnm hlk hrt hZ X0 e0
  refine own_enter (ef_rm_une m nm a2) ?_
  have N0 := Fr.nil n0
  have A_n := S_n.exa
  have S_cs0 := S_cs
  have S_f0 := S_f
  have S_n0 := S_n
  have A_n0 := A_n
  refine own_newO X0 hx hby hZ hown (ow_13 hw) (ow_14 hw) (ow_15 hw) e0 od_prog_22_method_4_0 (pc' := 3) rfl (by decide) (by decide) ?_
  intro T1 h1 b1 g1 X1 e1 E1 AX1 D1
  have le2 : h0.size ≤ b1 := Nat.le_of_eq g1.symm
  have n0_b1 : n0 ≤ b1 := Nat.le_trans Z0 (Nat.le_of_eq g1.symm)
  have F_value_b1 : Fld Z h1 b1 "java/lang/AbstractStringBuilder" "value" "[B" .null := D1 (Or.inl (ow_43 hw)) (ty := (.array .byte)) (by decide)
  have F_coder_b1 : Fld Z h1 b1 "java/lang/AbstractStringBuilder" "coder" "B" (.int (0 : Int32)) := D1 (Or.inl (ow_45 hw)) (ty := .byte) (by decide)
  have F_count_b1 : Fld Z h1 b1 "java/lang/AbstractStringBuilder" "count" "I" (.int (0 : Int32)) := D1 (Or.inl (ow_75 hw)) (ty := .int) (by decide)
  refine own_dup X1 hx hby od_prog_22_method_4_3 (pc' := 4) rfl rfl ?_
  refine own_aloadN X1 hx hby od_prog_22_method_4_4 (pc' := 5) rfl rfl rfl ?_
  refine own_virt X1 hx hby hml hZ hown (ow_16 hw) (ow_17 hw) (notFace_of_selects (args := #[]) (mvT hZ (ow_19 hw))) (ow_19 hw) (ow_18 hw) (by decide) (cc := 0) (ss := 0) (own_lenB (W := 2) hZ hw (S_n.ext E1) (Nat.le_trans hl6 (by decide)) (S_cs.ext E1) P5 (by decide) (by decide)) rfl (A_n.ext E1) (argsL := []) (rest := [(.ref b1), (.ref b1)]) opd_3 rfl rfl (Nat.le_refl _) od_prog_22_method_4_5 (pc' := 8) rfl rfl e1 (by decide) (by decide) ?_
  rintro v3 T3 h3 L3 X3 e3 ⟨hv3, hl3, hh3⟩
  subst hl3
  obtain rfl := hh3.symm
  obtain rfl := hv3
  have N3 := N0.app (Fr.nil n0)
  refine own_specM X3 hx hby hml hZ hown rfl (ow_29 hw) (ow_30 hw) (ow_15 hw) (ow_31 hw) (by decide) (cc := 1) (ss := 6) (rm_sb l Z a0 hw b1 cs.length G1 h1 n0 (Nat.le_trans Z0 E1.1) n0_b1 AX1 F_value_b1 F_coder_b1 F_count_b1 (S_cs.ext E1) P5 hl6) 1 rfl rfl (by decide) (by decide) rfl (argsL := [(.int (Int32.ofNat cs.length))]) (rest := [(.ref b1)]) opd_4 rfl rfl (Nat.le_refl _) od_prog_22_method_4_8 (pc' := 11) rfl rfl e3 (by decide) (by decide) ?_
  rintro v4 T4 h4 L4 X4 e4 ⟨vb, kb, rfl, levb, n0_vb, Nq4, Kq4, Bq⟩
  have levb0 : h0.size ≤ vb := Nat.le_trans E1.1 levb
  have N4 := N3.app Nq4
  have Ea5 := own_xk E1 Kq4 (allS le2 all0)
  replace S_cs := S_cs.ext Ea5
  replace S_f := S_f.ext Ea5
  replace S_n := S_n.ext Ea5
  replace A_n := A_n.ext Ea5
  refine own_astoreN X4 hx hby od_prog_22_method_4_11 (pc' := 12) rfl rfl (Ls' := #[.val (.ref nm), .val (.ref a2), .val (.ref b1), .unset, .unset, .unset]) rfl ?_
  refine own_iconst X4 hx hby od_prog_22_method_4_12 (pc' := 13) rfl (z := 0) rfl ?_
  refine own_istoreN X4 hx hby od_prog_22_method_4_13 (pc' := 14) rfl (Ls' := #[.val (.ref nm), .val (.ref a2), .val (.ref b1), .val (.int (0 : Int32)), .unset, .unset]) rfl ?_
  refine own_join (α := List own_Tok × List Int32 × List Int32 × State × Heap × List Loc × Slot × Slot) (F := fun z => z.2.2.2.1.setTop (mkF m 14 #[.val (.ref nm), .val (.ref a2), .val (.ref b1), .val (.int (Int32.ofNat z.2.1.length)), z.2.2.2.2.2.2.1, z.2.2.2.2.2.2.2] [])) (P := fun z => (∀ t ∈ z.1, own_ok t) ∧ cs = z.2.1 ++ own_srcs z.1 ∧ z.2.2.1 ++ own_outs z.1 = os ∧ z.2.2.1.length ≤ z.2.1.length ∧ own_si z.2.2.2.2.2.2.1 ∧ own_si z.2.2.2.2.2.2.2 ∧ Stand p l e ({ frames := 6, cells := 4, slots := 20, locals := 113 } : Room) s m #[(.ref nm), (.ref a2)] below meth c z.2.2.2.1 z.2.2.2.2.2.1 2 10 ∧ z.2.2.2.1.heap = z.2.2.2.2.1 ∧ Ext h0 z.2.2.2.2.1 ∧ Fr n0 z.2.2.2.2.2.1 ∧ own_SB Z z.2.2.2.2.1 b1 vb kb z.2.2.1 cs.length) ?_ ?_
  · rintro ⟨tk, pre, ds, T1, h1, L1, u4, u5⟩ hP
    show own_E p.tables e below _ (T1.setTop (mkF m 14 #[.val (.ref nm), .val (.ref a2), .val (.ref b1), .val (.int (Int32.ofNat pre.length)), u4, u5] []))
    replace hP : (∀ t ∈ tk, own_ok t) ∧ cs = pre ++ own_srcs tk ∧ ds ++ own_outs tk = os ∧ ds.length ≤ pre.length ∧ own_si u4 ∧ own_si u5 ∧ Stand p l e ({ frames := 6, cells := 4, slots := 20, locals := 113 } : Room) s m #[(.ref nm), (.ref a2)] below meth c T1 L1 2 10 ∧ T1.heap = h1 ∧ Ext h0 h1 ∧ Fr n0 L1 ∧ own_SB Z h1 b1 vb kb ds cs.length := hP
    revert hP
    induction tk generalizing pre ds T1 h1 L1 u4 u5 with
    | nil =>
      rintro ⟨hok, hcs, ho, hdp, hu4, hu5, X1, e1, E1, N1, B1⟩
      have A_sb := B1.1
      have hl : pre.length = cs.length := by rw [hcs]; simp [own_srcs]
      have hos : ds = os := by rw [← ho]; simp [own_outs]
      refine own_iloadN X1 hx hby od_prog_22_method_4_14 (pc' := 15) rfl rfl ?_
      refine own_aloadN X1 hx hby od_prog_22_method_4_15 (pc' := 16) rfl rfl rfl ?_
      refine own_virt X1 hx hby hml hZ hown (ow_16 hw) (ow_17 hw) (notFace_of_selects (args := #[]) (mvT hZ (ow_19 hw))) (ow_19 hw) (ow_18 hw) (by decide) (cc := 0) (ss := 0) (own_lenB (W := 1) hZ hw (S_n0.ext E1) (Nat.le_trans hl6 (by decide)) (S_cs0.ext E1) P5 (by decide) (by decide)) rfl (A_n0.ext E1) (argsL := []) (rest := [(.int (Int32.ofNat pre.length))]) opd_3 rfl rfl (Nat.le_refl _) od_prog_22_method_4_16 (pc' := 19) rfl rfl e1 (by decide) (by decide) ?_
      rintro v6 T6 h6 L6 X6 e6 ⟨hv6, hl6, hh6⟩
      subst hl6
      obtain rfl := hh6.symm
      obtain rfl := hv6
      have N6 := N1.app (Fr.nil n0)
      refine own_icmpY X6 hx hby od_prog_22_method_4_19 (by decide) (pc' := 174) (by decide) (flt (by rw [hl, Int32.lt_iff_toInt_lt]; exact Int.lt_irrefl _)).2.1 ?_
      refine own_aloadN X6 hx hby od_prog_22_method_4_174 (pc' := 175) rfl rfl rfl ?_
      refine own_virtM X6 hx hby hml hZ hown (ow_46 hw) (ow_47 hw) (notFace_of_selects (args := #[]) (mvT hZ (ow_49 hw))) (ow_49 hw) (ow_48 hw) (ow_15 hw) (ow_50 hw) (by decide) (cc := 2) (ss := 10) (rm_tos l Z a0 hw b1 vb kb ds cs.length G1 h1 n0 (Nat.le_trans Z0 E1.1) B1 (S_cs0.ext E1) P5) 0 rfl rfl (by decide) (by decide) rfl A_sb (argsL := []) (rest := []) opd_13 rfl rfl (Nat.le_refl _) od_prog_22_method_4_175 (pc' := 178) rfl rfl e6 (by decide) (by decide) ?_
      rintro v7 T7 h7 L7 X7 e7 ⟨r, rfl, Eq7, Nq7, Sr⟩
      have N7 := N6.app Nq7
      have Ea8 := own_xt E1 Eq7
      exact own_retA X7 hx hby hlk hrt rfl rfl od_prog_22_method_4_178 (by first | exact ⟨r, rfl, Ea8, N7, hos ▸ Sr⟩ | (rw [e7]; exact ⟨r, rfl, Ea8, N7, hos ▸ Sr⟩)) (by decide) (by decide)
    | cons t tk ih =>
      rintro ⟨hok, hcs, ho, hdp, hu4, hu5, X1, e1, E1, N1, B1⟩
      have A_sb := B1.1
      have ht := hok t (List.mem_cons_self ..)
      rcases t with ⟨x, _ | y⟩
      · have hlt : pre.length < cs.length := by rw [hcs]; simp [own_srcs]
        have hroom : ds.length < cs.length := Nat.lt_of_le_of_lt hdp hlt
        have hg : cs.getD pre.length 0 = x := by rw [hcs]; exact own_get0 _ _ _
        have hbc := ht.2
        refine own_iloadN X1 hx hby od_prog_22_method_4_14 (pc' := 15) rfl rfl ?_
        refine own_aloadN X1 hx hby od_prog_22_method_4_15 (pc' := 16) rfl rfl rfl ?_
        refine own_virt X1 hx hby hml hZ hown (ow_16 hw) (ow_17 hw) (notFace_of_selects (args := #[]) (mvT hZ (ow_19 hw))) (ow_19 hw) (ow_18 hw) (by decide) (cc := 0) (ss := 0) (own_lenB (W := 1) hZ hw (S_n0.ext E1) (Nat.le_trans hl6 (by decide)) (S_cs0.ext E1) P5 (by decide) (by decide)) rfl (A_n0.ext E1) (argsL := []) (rest := [(.int (Int32.ofNat pre.length))]) opd_3 rfl rfl (Nat.le_refl _) od_prog_22_method_4_16 (pc' := 19) rfl rfl e1 (by decide) (by decide) ?_
        rintro v9 T9 h9 L9 X9 e9 ⟨hv9, hl9, hh9⟩
        subst hl9
        obtain rfl := hh9.symm
        obtain rfl := hv9
        have N9 := N1.app (Fr.nil n0)
        refine own_icmpN X9 hx hby od_prog_22_method_4_19 (pc' := 22) rfl (tlt (own_lt6 hlt hl6).2).2.1 ?_
        refine own_aloadN X9 hx hby od_prog_22_method_4_22 (pc' := 23) rfl rfl rfl ?_
        refine own_iloadN X9 hx hby od_prog_22_method_4_23 (pc' := 24) rfl rfl ?_
        refine own_virt X9 hx hby hml hZ hown (ow_135 hw) (ow_136 hw) (notFace_of_selects (args := #[]) (mvT hZ (ow_138 hw))) (ow_138 hw) (ow_137 hw) (by decide) (cc := 0) (ss := 0) (own_chB (W := 0) hZ hw (i := pre.length) (S_n0.ext E1) (Nat.le_trans hl6 (by decide)) (S_cs0.ext E1) P5 (S_f0.ext E1) rf hlt rfl (by decide) (by decide)) rfl (A_n0.ext E1) (argsL := [(.int (Int32.ofNat pre.length))]) (rest := []) opd_14 rfl rfl (Nat.le_refl _) od_prog_22_method_4_24 (pc' := 27) rfl rfl e9 (by decide) (by decide) ?_
        rintro v10 T10 h10 L10 X10 e10 ⟨hv10, hl10, hh10⟩
        rw [hg] at hv10
        subst hl10
        obtain rfl := hh10.symm
        obtain rfl := hv10
        have N10 := N9.app (Fr.nil n0)
        refine own_istore X10 hx hby od_prog_22_method_4_27 (pc' := 29) rfl (Ls' := #[.val (.ref nm), .val (.ref a2), .val (.ref b1), .val (.int (Int32.ofNat pre.length)), .val (.int x), u5]) (own_sto4 hu4 hu5 _) ?_
        refine own_iload X10 hx hby od_prog_22_method_4_29 (pc' := 31) rfl rfl ?_
        refine own_bipush X10 hx hby od_prog_22_method_4_31 (pc' := 33) rfl (z := 92) rfl ?_
        refine own_icmpY X10 hx hby od_prog_22_method_4_33 (by decide) (pc' := 161) (by decide) (feq ht.1).2 ?_
        refine own_aloadN X10 hx hby od_prog_22_method_4_161 (pc' := 162) rfl rfl rfl ?_
        refine own_iload X10 hx hby od_prog_22_method_4_162 (pc' := 164) rfl rfl ?_
        refine own_virtM X10 hx hby hml hZ hown (ow_156 hw) (ow_157 hw) (notFace_of_selects (args := #[]) (mvT hZ (ow_159 hw))) (ow_159 hw) (ow_158 hw) (ow_15 hw) (ow_160 hw) (by decide) (cc := 0) (ss := 0) (rm_app l Z a0 hw b1 vb kb ds cs.length x G1 h1 n0 (Nat.le_trans Z0 E1.1) n0_b1 n0_vb B1 (S_cs0.ext E1) P5 hroom hbc) 0 rfl rfl (by decide) (by decide) rfl A_sb (argsL := [(.int x)]) (rest := []) opd_15 rfl rfl (Nat.le_refl _) od_prog_22_method_4_164 (pc' := 167) rfl rfl e10 (by decide) (by decide) ?_
        rintro v11 T11 h11 L11 X11 e11 ⟨rfl, Nq11, Kq11, Bq11⟩
        have N11 := N10.app Nq11
        have E9 := own_xk E1 Kq11 (allS le2 (allS levb0 all0))
        refine own_pop X11 hx hby od_prog_22_method_4_167 (pc' := 168) rfl rfl ?_
        refine own_iinc X11 hx hby od_prog_22_method_4_168 (pc' := 171) rfl rfl (z := 1) rfl (Ls' := #[.val (.ref nm), .val (.ref a2), .val (.ref b1), .val (.int ((Int32.ofNat pre.length) + (1 : Int32))), .val (.int x), u5]) rfl ?_
        refine own_goto X11 hx hby od_prog_22_method_4_171 (by decide) (pc' := 14) (by decide) ?_
        have hi := ih (pre ++ [x]) (ds ++ [x]) T11 h11 _ (.val (.int x)) u5 ⟨(fun t ht => hok t (List.mem_cons_of_mem _ ht)), (by rw [hcs]; simp [own_srcs]), (by rw [← ho]; simp [own_outs]), (by simp; omega), (Or.inr ⟨_, rfl⟩), hu5, X11, e11, E9, N11, Bq11⟩
        rw [show (pre ++ [x]).length = pre.length + 1 from by simp, ← own_succ] at hi
        exact hi
      · have hlt : pre.length < cs.length := by rw [hcs]; simp [own_srcs]
        have hlt1 : pre.length + 1 < cs.length := by rw [hcs]; simp [own_srcs]
        have hroom : ds.length < cs.length := Nat.lt_of_le_of_lt hdp hlt
        have hg : cs.getD pre.length 0 = (92 : Int32) := by rw [hcs]; exact own_get0 _ _ _
        have hg1 : cs.getD (pre.length + 1) 0 = x := by rw [hcs]; exact own_get1 _ _ _ _
        rcases ht with ⟨rfl, rfl⟩ | ⟨rfl, rfl⟩ | ⟨rfl, rfl⟩ | ⟨rfl, rfl⟩
        · have hbc : ¬ (92 : Int32) < 0 ∧ ¬ (255 : Int32) < (92 : Int32) := by decide
          refine own_iloadN X1 hx hby od_prog_22_method_4_14 (pc' := 15) rfl rfl ?_
          refine own_aloadN X1 hx hby od_prog_22_method_4_15 (pc' := 16) rfl rfl rfl ?_
          refine own_virt X1 hx hby hml hZ hown (ow_16 hw) (ow_17 hw) (notFace_of_selects (args := #[]) (mvT hZ (ow_19 hw))) (ow_19 hw) (ow_18 hw) (by decide) (cc := 0) (ss := 0) (own_lenB (W := 1) hZ hw (S_n0.ext E1) (Nat.le_trans hl6 (by decide)) (S_cs0.ext E1) P5 (by decide) (by decide)) rfl (A_n0.ext E1) (argsL := []) (rest := [(.int (Int32.ofNat pre.length))]) opd_3 rfl rfl (Nat.le_refl _) od_prog_22_method_4_16 (pc' := 19) rfl rfl e1 (by decide) (by decide) ?_
          rintro v12 T12 h12 L12 X12 e12 ⟨hv12, hl12, hh12⟩
          subst hl12
          obtain rfl := hh12.symm
          obtain rfl := hv12
          have N12 := N1.app (Fr.nil n0)
          refine own_icmpN X12 hx hby od_prog_22_method_4_19 (pc' := 22) rfl (tlt (own_lt6 hlt hl6).2).2.1 ?_
          refine own_aloadN X12 hx hby od_prog_22_method_4_22 (pc' := 23) rfl rfl rfl ?_
          refine own_iloadN X12 hx hby od_prog_22_method_4_23 (pc' := 24) rfl rfl ?_
          refine own_virt X12 hx hby hml hZ hown (ow_135 hw) (ow_136 hw) (notFace_of_selects (args := #[]) (mvT hZ (ow_138 hw))) (ow_138 hw) (ow_137 hw) (by decide) (cc := 0) (ss := 0) (own_chB (W := 0) hZ hw (i := pre.length) (S_n0.ext E1) (Nat.le_trans hl6 (by decide)) (S_cs0.ext E1) P5 (S_f0.ext E1) rf hlt rfl (by decide) (by decide)) rfl (A_n0.ext E1) (argsL := [(.int (Int32.ofNat pre.length))]) (rest := []) opd_14 rfl rfl (Nat.le_refl _) od_prog_22_method_4_24 (pc' := 27) rfl rfl e12 (by decide) (by decide) ?_
          rintro v13 T13 h13 L13 X13 e13 ⟨hv13, hl13, hh13⟩
          rw [hg] at hv13
          subst hl13
          obtain rfl := hh13.symm
          obtain rfl := hv13
          have N13 := N12.app (Fr.nil n0)
          refine own_istore X13 hx hby od_prog_22_method_4_27 (pc' := 29) rfl (Ls' := #[.val (.ref nm), .val (.ref a2), .val (.ref b1), .val (.int (Int32.ofNat pre.length)), .val (.int (92 : Int32)), u5]) (own_sto4 hu4 hu5 _) ?_
          refine own_iload X13 hx hby od_prog_22_method_4_29 (pc' := 31) rfl rfl ?_
          refine own_bipush X13 hx hby od_prog_22_method_4_31 (pc' := 33) rfl (z := 92) rfl ?_
          refine own_icmpN X13 hx hby od_prog_22_method_4_33 (pc' := 36) rfl (teq rfl).2 ?_
          refine own_iloadN X13 hx hby od_prog_22_method_4_36 (pc' := 37) rfl rfl ?_
          refine own_iconst X13 hx hby od_prog_22_method_4_37 (pc' := 38) rfl (z := 1) rfl ?_
          refine own_iadd X13 hx hby od_prog_22_method_4_38 (pc' := 39) rfl ?_
          refine own_aloadN X13 hx hby od_prog_22_method_4_39 (pc' := 40) rfl rfl rfl ?_
          refine own_virt X13 hx hby hml hZ hown (ow_16 hw) (ow_17 hw) (notFace_of_selects (args := #[]) (mvT hZ (ow_19 hw))) (ow_19 hw) (ow_18 hw) (by decide) (cc := 0) (ss := 0) (own_lenB (W := 1) hZ hw (S_n0.ext E1) (Nat.le_trans hl6 (by decide)) (S_cs0.ext E1) P5 (by decide) (by decide)) rfl (A_n0.ext E1) (argsL := []) (rest := [(.int ((Int32.ofNat pre.length) + (1 : Int32)))]) opd_3 rfl rfl (Nat.le_refl _) od_prog_22_method_4_40 (pc' := 43) rfl rfl e13 (by decide) (by decide) ?_
          rintro v14 T14 h14 L14 X14 e14 ⟨hv14, hl14, hh14⟩
          subst hl14
          obtain rfl := hh14.symm
          obtain rfl := hv14
          have N14 := N13.app (Fr.nil n0)
          refine own_icmpN X14 hx hby od_prog_22_method_4_43 (pc' := 46) rfl (tlt (by rw [own_succ]; exact (own_lt6 hlt1 hl6).2)).2.1 ?_
          refine own_aloadN X14 hx hby od_prog_22_method_4_46 (pc' := 47) rfl rfl rfl ?_
          refine own_iinc X14 hx hby od_prog_22_method_4_47 (pc' := 50) rfl rfl (z := 1) rfl (Ls' := #[.val (.ref nm), .val (.ref a2), .val (.ref b1), .val (.int ((Int32.ofNat pre.length) + (1 : Int32))), .val (.int (92 : Int32)), u5]) rfl ?_
          refine own_iloadN X14 hx hby od_prog_22_method_4_50 (pc' := 51) rfl rfl ?_
          refine own_virt X14 hx hby hml hZ hown (ow_135 hw) (ow_136 hw) (notFace_of_selects (args := #[]) (mvT hZ (ow_138 hw))) (ow_138 hw) (ow_137 hw) (by decide) (cc := 0) (ss := 0) (own_chB (W := 0) hZ hw (i := (pre.length + 1)) (S_n0.ext E1) (Nat.le_trans hl6 (by decide)) (S_cs0.ext E1) P5 (S_f0.ext E1) rf hlt1 (own_succ _) (by decide) (by decide)) rfl (A_n0.ext E1) (argsL := [(.int ((Int32.ofNat pre.length) + (1 : Int32)))]) (rest := []) opd_14 rfl rfl (Nat.le_refl _) od_prog_22_method_4_51 (pc' := 54) rfl rfl e14 (by decide) (by decide) ?_
          rintro v15 T15 h15 L15 X15 e15 ⟨hv15, hl15, hh15⟩
          rw [hg1] at hv15
          subst hl15
          obtain rfl := hh15.symm
          obtain rfl := hv15
          have N15 := N14.app (Fr.nil n0)
          refine own_goto X15 hx hby od_prog_22_method_4_54 (by decide) (pc' := 59) (by decide) ?_
          refine own_istore X15 hx hby od_prog_22_method_4_59 (pc' := 61) rfl (Ls' := #[.val (.ref nm), .val (.ref a2), .val (.ref b1), .val (.int ((Int32.ofNat pre.length) + (1 : Int32))), .val (.int (92 : Int32)), .val (.int (92 : Int32))]) (own_sto5 hu5 _) ?_
          refine own_iload X15 hx hby od_prog_22_method_4_61 (pc' := 63) rfl rfl ?_
          refine own_lswitch X15 hx hby od_prog_22_method_4_63 (by decide) (a := 92) (off := 41) (by decide) (by decide) (pc' := 104) (by decide) ?_
          refine own_aloadN X15 hx hby od_prog_22_method_4_104 (pc' := 105) rfl rfl rfl ?_
          refine own_bipush X15 hx hby od_prog_22_method_4_105 (pc' := 107) rfl (z := 92) rfl ?_
          refine own_virtM X15 hx hby hml hZ hown (ow_156 hw) (ow_157 hw) (notFace_of_selects (args := #[]) (mvT hZ (ow_159 hw))) (ow_159 hw) (ow_158 hw) (ow_15 hw) (ow_160 hw) (by decide) (cc := 0) (ss := 0) (rm_app l Z a0 hw b1 vb kb ds cs.length (92 : Int32) G1 h1 n0 (Nat.le_trans Z0 E1.1) n0_b1 n0_vb B1 (S_cs0.ext E1) P5 hroom hbc) 0 rfl rfl (by decide) (by decide) rfl A_sb (argsL := [(.int (92 : Int32))]) (rest := []) opd_15 rfl rfl (Nat.le_refl _) od_prog_22_method_4_107 (pc' := 110) rfl rfl e15 (by decide) (by decide) ?_
          rintro v16 T16 h16 L16 X16 e16 ⟨rfl, Nq16, Kq16, Bq16⟩
          have N16 := N15.app Nq16
          have E9 := own_xk E1 Kq16 (allS le2 (allS levb0 all0))
          refine own_pop X16 hx hby od_prog_22_method_4_110 (pc' := 111) rfl rfl ?_
          refine own_goto X16 hx hby od_prog_22_method_4_111 (by decide) (pc' := 158) (by decide) ?_
          refine own_goto X16 hx hby od_prog_22_method_4_158 (by decide) (pc' := 168) (by decide) ?_
          refine own_iinc X16 hx hby od_prog_22_method_4_168 (pc' := 171) rfl rfl (z := 1) rfl (Ls' := #[.val (.ref nm), .val (.ref a2), .val (.ref b1), .val (.int (((Int32.ofNat pre.length) + (1 : Int32)) + (1 : Int32))), .val (.int (92 : Int32)), .val (.int (92 : Int32))]) rfl ?_
          refine own_goto X16 hx hby od_prog_22_method_4_171 (by decide) (pc' := 14) (by decide) ?_
          have hi := ih (pre ++ [(92 : Int32), (92 : Int32)]) (ds ++ [(92 : Int32)]) T16 h16 _ (.val (.int (92 : Int32))) (.val (.int (92 : Int32))) ⟨(fun t ht => hok t (List.mem_cons_of_mem _ ht)), (by rw [hcs]; simp [own_srcs]), (by rw [← ho]; simp [own_outs]), (by simp; omega), (Or.inr ⟨_, rfl⟩), (Or.inr ⟨_, rfl⟩), X16, e16, E9, N16, Bq16⟩
          rw [show (pre ++ [(92 : Int32), (92 : Int32)]).length = pre.length + 2 from by simp, ← own_succ, ← own_succ] at hi
          exact hi
        · have hbc : ¬ (10 : Int32) < 0 ∧ ¬ (255 : Int32) < (10 : Int32) := by decide
          refine own_iloadN X1 hx hby od_prog_22_method_4_14 (pc' := 15) rfl rfl ?_
          refine own_aloadN X1 hx hby od_prog_22_method_4_15 (pc' := 16) rfl rfl rfl ?_
          refine own_virt X1 hx hby hml hZ hown (ow_16 hw) (ow_17 hw) (notFace_of_selects (args := #[]) (mvT hZ (ow_19 hw))) (ow_19 hw) (ow_18 hw) (by decide) (cc := 0) (ss := 0) (own_lenB (W := 1) hZ hw (S_n0.ext E1) (Nat.le_trans hl6 (by decide)) (S_cs0.ext E1) P5 (by decide) (by decide)) rfl (A_n0.ext E1) (argsL := []) (rest := [(.int (Int32.ofNat pre.length))]) opd_3 rfl rfl (Nat.le_refl _) od_prog_22_method_4_16 (pc' := 19) rfl rfl e1 (by decide) (by decide) ?_
          rintro v17 T17 h17 L17 X17 e17 ⟨hv17, hl17, hh17⟩
          subst hl17
          obtain rfl := hh17.symm
          obtain rfl := hv17
          have N17 := N1.app (Fr.nil n0)
          refine own_icmpN X17 hx hby od_prog_22_method_4_19 (pc' := 22) rfl (tlt (own_lt6 hlt hl6).2).2.1 ?_
          refine own_aloadN X17 hx hby od_prog_22_method_4_22 (pc' := 23) rfl rfl rfl ?_
          refine own_iloadN X17 hx hby od_prog_22_method_4_23 (pc' := 24) rfl rfl ?_
          refine own_virt X17 hx hby hml hZ hown (ow_135 hw) (ow_136 hw) (notFace_of_selects (args := #[]) (mvT hZ (ow_138 hw))) (ow_138 hw) (ow_137 hw) (by decide) (cc := 0) (ss := 0) (own_chB (W := 0) hZ hw (i := pre.length) (S_n0.ext E1) (Nat.le_trans hl6 (by decide)) (S_cs0.ext E1) P5 (S_f0.ext E1) rf hlt rfl (by decide) (by decide)) rfl (A_n0.ext E1) (argsL := [(.int (Int32.ofNat pre.length))]) (rest := []) opd_14 rfl rfl (Nat.le_refl _) od_prog_22_method_4_24 (pc' := 27) rfl rfl e17 (by decide) (by decide) ?_
          rintro v18 T18 h18 L18 X18 e18 ⟨hv18, hl18, hh18⟩
          rw [hg] at hv18
          subst hl18
          obtain rfl := hh18.symm
          obtain rfl := hv18
          have N18 := N17.app (Fr.nil n0)
          refine own_istore X18 hx hby od_prog_22_method_4_27 (pc' := 29) rfl (Ls' := #[.val (.ref nm), .val (.ref a2), .val (.ref b1), .val (.int (Int32.ofNat pre.length)), .val (.int (92 : Int32)), u5]) (own_sto4 hu4 hu5 _) ?_
          refine own_iload X18 hx hby od_prog_22_method_4_29 (pc' := 31) rfl rfl ?_
          refine own_bipush X18 hx hby od_prog_22_method_4_31 (pc' := 33) rfl (z := 92) rfl ?_
          refine own_icmpN X18 hx hby od_prog_22_method_4_33 (pc' := 36) rfl (teq rfl).2 ?_
          refine own_iloadN X18 hx hby od_prog_22_method_4_36 (pc' := 37) rfl rfl ?_
          refine own_iconst X18 hx hby od_prog_22_method_4_37 (pc' := 38) rfl (z := 1) rfl ?_
          refine own_iadd X18 hx hby od_prog_22_method_4_38 (pc' := 39) rfl ?_
          refine own_aloadN X18 hx hby od_prog_22_method_4_39 (pc' := 40) rfl rfl rfl ?_
          refine own_virt X18 hx hby hml hZ hown (ow_16 hw) (ow_17 hw) (notFace_of_selects (args := #[]) (mvT hZ (ow_19 hw))) (ow_19 hw) (ow_18 hw) (by decide) (cc := 0) (ss := 0) (own_lenB (W := 1) hZ hw (S_n0.ext E1) (Nat.le_trans hl6 (by decide)) (S_cs0.ext E1) P5 (by decide) (by decide)) rfl (A_n0.ext E1) (argsL := []) (rest := [(.int ((Int32.ofNat pre.length) + (1 : Int32)))]) opd_3 rfl rfl (Nat.le_refl _) od_prog_22_method_4_40 (pc' := 43) rfl rfl e18 (by decide) (by decide) ?_
          rintro v19 T19 h19 L19 X19 e19 ⟨hv19, hl19, hh19⟩
          subst hl19
          obtain rfl := hh19.symm
          obtain rfl := hv19
          have N19 := N18.app (Fr.nil n0)
          refine own_icmpN X19 hx hby od_prog_22_method_4_43 (pc' := 46) rfl (tlt (by rw [own_succ]; exact (own_lt6 hlt1 hl6).2)).2.1 ?_
          refine own_aloadN X19 hx hby od_prog_22_method_4_46 (pc' := 47) rfl rfl rfl ?_
          refine own_iinc X19 hx hby od_prog_22_method_4_47 (pc' := 50) rfl rfl (z := 1) rfl (Ls' := #[.val (.ref nm), .val (.ref a2), .val (.ref b1), .val (.int ((Int32.ofNat pre.length) + (1 : Int32))), .val (.int (92 : Int32)), u5]) rfl ?_
          refine own_iloadN X19 hx hby od_prog_22_method_4_50 (pc' := 51) rfl rfl ?_
          refine own_virt X19 hx hby hml hZ hown (ow_135 hw) (ow_136 hw) (notFace_of_selects (args := #[]) (mvT hZ (ow_138 hw))) (ow_138 hw) (ow_137 hw) (by decide) (cc := 0) (ss := 0) (own_chB (W := 0) hZ hw (i := (pre.length + 1)) (S_n0.ext E1) (Nat.le_trans hl6 (by decide)) (S_cs0.ext E1) P5 (S_f0.ext E1) rf hlt1 (own_succ _) (by decide) (by decide)) rfl (A_n0.ext E1) (argsL := [(.int ((Int32.ofNat pre.length) + (1 : Int32)))]) (rest := []) opd_14 rfl rfl (Nat.le_refl _) od_prog_22_method_4_51 (pc' := 54) rfl rfl e19 (by decide) (by decide) ?_
          rintro v20 T20 h20 L20 X20 e20 ⟨hv20, hl20, hh20⟩
          rw [hg1] at hv20
          subst hl20
          obtain rfl := hh20.symm
          obtain rfl := hv20
          have N20 := N19.app (Fr.nil n0)
          refine own_goto X20 hx hby od_prog_22_method_4_54 (by decide) (pc' := 59) (by decide) ?_
          refine own_istore X20 hx hby od_prog_22_method_4_59 (pc' := 61) rfl (Ls' := #[.val (.ref nm), .val (.ref a2), .val (.ref b1), .val (.int ((Int32.ofNat pre.length) + (1 : Int32))), .val (.int (92 : Int32)), .val (.int (110 : Int32))]) (own_sto5 hu5 _) ?_
          refine own_iload X20 hx hby od_prog_22_method_4_61 (pc' := 63) rfl rfl ?_
          refine own_lswitch X20 hx hby od_prog_22_method_4_63 (by decide) (a := 110) (off := 61) (by decide) (by decide) (pc' := 124) (by decide) ?_
          refine own_aloadN X20 hx hby od_prog_22_method_4_124 (pc' := 125) rfl rfl rfl ?_
          refine own_bipush X20 hx hby od_prog_22_method_4_125 (pc' := 127) rfl (z := 10) rfl ?_
          refine own_virtM X20 hx hby hml hZ hown (ow_156 hw) (ow_157 hw) (notFace_of_selects (args := #[]) (mvT hZ (ow_159 hw))) (ow_159 hw) (ow_158 hw) (ow_15 hw) (ow_160 hw) (by decide) (cc := 0) (ss := 0) (rm_app l Z a0 hw b1 vb kb ds cs.length (10 : Int32) G1 h1 n0 (Nat.le_trans Z0 E1.1) n0_b1 n0_vb B1 (S_cs0.ext E1) P5 hroom hbc) 0 rfl rfl (by decide) (by decide) rfl A_sb (argsL := [(.int (10 : Int32))]) (rest := []) opd_15 rfl rfl (Nat.le_refl _) od_prog_22_method_4_127 (pc' := 130) rfl rfl e20 (by decide) (by decide) ?_
          rintro v21 T21 h21 L21 X21 e21 ⟨rfl, Nq21, Kq21, Bq21⟩
          have N21 := N20.app Nq21
          have E9 := own_xk E1 Kq21 (allS le2 (allS levb0 all0))
          refine own_pop X21 hx hby od_prog_22_method_4_130 (pc' := 131) rfl rfl ?_
          refine own_goto X21 hx hby od_prog_22_method_4_131 (by decide) (pc' := 158) (by decide) ?_
          refine own_goto X21 hx hby od_prog_22_method_4_158 (by decide) (pc' := 168) (by decide) ?_
          refine own_iinc X21 hx hby od_prog_22_method_4_168 (pc' := 171) rfl rfl (z := 1) rfl (Ls' := #[.val (.ref nm), .val (.ref a2), .val (.ref b1), .val (.int (((Int32.ofNat pre.length) + (1 : Int32)) + (1 : Int32))), .val (.int (92 : Int32)), .val (.int (110 : Int32))]) rfl ?_
          refine own_goto X21 hx hby od_prog_22_method_4_171 (by decide) (pc' := 14) (by decide) ?_
          have hi := ih (pre ++ [(92 : Int32), (110 : Int32)]) (ds ++ [(10 : Int32)]) T21 h21 _ (.val (.int (92 : Int32))) (.val (.int (110 : Int32))) ⟨(fun t ht => hok t (List.mem_cons_of_mem _ ht)), (by rw [hcs]; simp [own_srcs]), (by rw [← ho]; simp [own_outs]), (by simp; omega), (Or.inr ⟨_, rfl⟩), (Or.inr ⟨_, rfl⟩), X21, e21, E9, N21, Bq21⟩
          rw [show (pre ++ [(92 : Int32), (110 : Int32)]).length = pre.length + 2 from by simp, ← own_succ, ← own_succ] at hi
          exact hi
        · have hbc : ¬ (13 : Int32) < 0 ∧ ¬ (255 : Int32) < (13 : Int32) := by decide
          refine own_iloadN X1 hx hby od_prog_22_method_4_14 (pc' := 15) rfl rfl ?_
          refine own_aloadN X1 hx hby od_prog_22_method_4_15 (pc' := 16) rfl rfl rfl ?_
          refine own_virt X1 hx hby hml hZ hown (ow_16 hw) (ow_17 hw) (notFace_of_selects (args := #[]) (mvT hZ (ow_19 hw))) (ow_19 hw) (ow_18 hw) (by decide) (cc := 0) (ss := 0) (own_lenB (W := 1) hZ hw (S_n0.ext E1) (Nat.le_trans hl6 (by decide)) (S_cs0.ext E1) P5 (by decide) (by decide)) rfl (A_n0.ext E1) (argsL := []) (rest := [(.int (Int32.ofNat pre.length))]) opd_3 rfl rfl (Nat.le_refl _) od_prog_22_method_4_16 (pc' := 19) rfl rfl e1 (by decide) (by decide) ?_
          rintro v22 T22 h22 L22 X22 e22 ⟨hv22, hl22, hh22⟩
          subst hl22
          obtain rfl := hh22.symm
          obtain rfl := hv22
          have N22 := N1.app (Fr.nil n0)
          refine own_icmpN X22 hx hby od_prog_22_method_4_19 (pc' := 22) rfl (tlt (own_lt6 hlt hl6).2).2.1 ?_
          refine own_aloadN X22 hx hby od_prog_22_method_4_22 (pc' := 23) rfl rfl rfl ?_
          refine own_iloadN X22 hx hby od_prog_22_method_4_23 (pc' := 24) rfl rfl ?_
          refine own_virt X22 hx hby hml hZ hown (ow_135 hw) (ow_136 hw) (notFace_of_selects (args := #[]) (mvT hZ (ow_138 hw))) (ow_138 hw) (ow_137 hw) (by decide) (cc := 0) (ss := 0) (own_chB (W := 0) hZ hw (i := pre.length) (S_n0.ext E1) (Nat.le_trans hl6 (by decide)) (S_cs0.ext E1) P5 (S_f0.ext E1) rf hlt rfl (by decide) (by decide)) rfl (A_n0.ext E1) (argsL := [(.int (Int32.ofNat pre.length))]) (rest := []) opd_14 rfl rfl (Nat.le_refl _) od_prog_22_method_4_24 (pc' := 27) rfl rfl e22 (by decide) (by decide) ?_
          rintro v23 T23 h23 L23 X23 e23 ⟨hv23, hl23, hh23⟩
          rw [hg] at hv23
          subst hl23
          obtain rfl := hh23.symm
          obtain rfl := hv23
          have N23 := N22.app (Fr.nil n0)
          refine own_istore X23 hx hby od_prog_22_method_4_27 (pc' := 29) rfl (Ls' := #[.val (.ref nm), .val (.ref a2), .val (.ref b1), .val (.int (Int32.ofNat pre.length)), .val (.int (92 : Int32)), u5]) (own_sto4 hu4 hu5 _) ?_
          refine own_iload X23 hx hby od_prog_22_method_4_29 (pc' := 31) rfl rfl ?_
          refine own_bipush X23 hx hby od_prog_22_method_4_31 (pc' := 33) rfl (z := 92) rfl ?_
          refine own_icmpN X23 hx hby od_prog_22_method_4_33 (pc' := 36) rfl (teq rfl).2 ?_
          refine own_iloadN X23 hx hby od_prog_22_method_4_36 (pc' := 37) rfl rfl ?_
          refine own_iconst X23 hx hby od_prog_22_method_4_37 (pc' := 38) rfl (z := 1) rfl ?_
          refine own_iadd X23 hx hby od_prog_22_method_4_38 (pc' := 39) rfl ?_
          refine own_aloadN X23 hx hby od_prog_22_method_4_39 (pc' := 40) rfl rfl rfl ?_
          refine own_virt X23 hx hby hml hZ hown (ow_16 hw) (ow_17 hw) (notFace_of_selects (args := #[]) (mvT hZ (ow_19 hw))) (ow_19 hw) (ow_18 hw) (by decide) (cc := 0) (ss := 0) (own_lenB (W := 1) hZ hw (S_n0.ext E1) (Nat.le_trans hl6 (by decide)) (S_cs0.ext E1) P5 (by decide) (by decide)) rfl (A_n0.ext E1) (argsL := []) (rest := [(.int ((Int32.ofNat pre.length) + (1 : Int32)))]) opd_3 rfl rfl (Nat.le_refl _) od_prog_22_method_4_40 (pc' := 43) rfl rfl e23 (by decide) (by decide) ?_
          rintro v24 T24 h24 L24 X24 e24 ⟨hv24, hl24, hh24⟩
          subst hl24
          obtain rfl := hh24.symm
          obtain rfl := hv24
          have N24 := N23.app (Fr.nil n0)
          refine own_icmpN X24 hx hby od_prog_22_method_4_43 (pc' := 46) rfl (tlt (by rw [own_succ]; exact (own_lt6 hlt1 hl6).2)).2.1 ?_
          refine own_aloadN X24 hx hby od_prog_22_method_4_46 (pc' := 47) rfl rfl rfl ?_
          refine own_iinc X24 hx hby od_prog_22_method_4_47 (pc' := 50) rfl rfl (z := 1) rfl (Ls' := #[.val (.ref nm), .val (.ref a2), .val (.ref b1), .val (.int ((Int32.ofNat pre.length) + (1 : Int32))), .val (.int (92 : Int32)), u5]) rfl ?_
          refine own_iloadN X24 hx hby od_prog_22_method_4_50 (pc' := 51) rfl rfl ?_
          refine own_virt X24 hx hby hml hZ hown (ow_135 hw) (ow_136 hw) (notFace_of_selects (args := #[]) (mvT hZ (ow_138 hw))) (ow_138 hw) (ow_137 hw) (by decide) (cc := 0) (ss := 0) (own_chB (W := 0) hZ hw (i := (pre.length + 1)) (S_n0.ext E1) (Nat.le_trans hl6 (by decide)) (S_cs0.ext E1) P5 (S_f0.ext E1) rf hlt1 (own_succ _) (by decide) (by decide)) rfl (A_n0.ext E1) (argsL := [(.int ((Int32.ofNat pre.length) + (1 : Int32)))]) (rest := []) opd_14 rfl rfl (Nat.le_refl _) od_prog_22_method_4_51 (pc' := 54) rfl rfl e24 (by decide) (by decide) ?_
          rintro v25 T25 h25 L25 X25 e25 ⟨hv25, hl25, hh25⟩
          rw [hg1] at hv25
          subst hl25
          obtain rfl := hh25.symm
          obtain rfl := hv25
          have N25 := N24.app (Fr.nil n0)
          refine own_goto X25 hx hby od_prog_22_method_4_54 (by decide) (pc' := 59) (by decide) ?_
          refine own_istore X25 hx hby od_prog_22_method_4_59 (pc' := 61) rfl (Ls' := #[.val (.ref nm), .val (.ref a2), .val (.ref b1), .val (.int ((Int32.ofNat pre.length) + (1 : Int32))), .val (.int (92 : Int32)), .val (.int (114 : Int32))]) (own_sto5 hu5 _) ?_
          refine own_iload X25 hx hby od_prog_22_method_4_61 (pc' := 63) rfl rfl ?_
          refine own_lswitch X25 hx hby od_prog_22_method_4_63 (by decide) (a := 114) (off := 71) (by decide) (by decide) (pc' := 134) (by decide) ?_
          refine own_aloadN X25 hx hby od_prog_22_method_4_134 (pc' := 135) rfl rfl rfl ?_
          refine own_bipush X25 hx hby od_prog_22_method_4_135 (pc' := 137) rfl (z := 13) rfl ?_
          refine own_virtM X25 hx hby hml hZ hown (ow_156 hw) (ow_157 hw) (notFace_of_selects (args := #[]) (mvT hZ (ow_159 hw))) (ow_159 hw) (ow_158 hw) (ow_15 hw) (ow_160 hw) (by decide) (cc := 0) (ss := 0) (rm_app l Z a0 hw b1 vb kb ds cs.length (13 : Int32) G1 h1 n0 (Nat.le_trans Z0 E1.1) n0_b1 n0_vb B1 (S_cs0.ext E1) P5 hroom hbc) 0 rfl rfl (by decide) (by decide) rfl A_sb (argsL := [(.int (13 : Int32))]) (rest := []) opd_15 rfl rfl (Nat.le_refl _) od_prog_22_method_4_137 (pc' := 140) rfl rfl e25 (by decide) (by decide) ?_
          rintro v26 T26 h26 L26 X26 e26 ⟨rfl, Nq26, Kq26, Bq26⟩
          have N26 := N25.app Nq26
          have E9 := own_xk E1 Kq26 (allS le2 (allS levb0 all0))
          refine own_pop X26 hx hby od_prog_22_method_4_140 (pc' := 141) rfl rfl ?_
          refine own_goto X26 hx hby od_prog_22_method_4_141 (by decide) (pc' := 158) (by decide) ?_
          refine own_goto X26 hx hby od_prog_22_method_4_158 (by decide) (pc' := 168) (by decide) ?_
          refine own_iinc X26 hx hby od_prog_22_method_4_168 (pc' := 171) rfl rfl (z := 1) rfl (Ls' := #[.val (.ref nm), .val (.ref a2), .val (.ref b1), .val (.int (((Int32.ofNat pre.length) + (1 : Int32)) + (1 : Int32))), .val (.int (92 : Int32)), .val (.int (114 : Int32))]) rfl ?_
          refine own_goto X26 hx hby od_prog_22_method_4_171 (by decide) (pc' := 14) (by decide) ?_
          have hi := ih (pre ++ [(92 : Int32), (114 : Int32)]) (ds ++ [(13 : Int32)]) T26 h26 _ (.val (.int (92 : Int32))) (.val (.int (114 : Int32))) ⟨(fun t ht => hok t (List.mem_cons_of_mem _ ht)), (by rw [hcs]; simp [own_srcs]), (by rw [← ho]; simp [own_outs]), (by simp; omega), (Or.inr ⟨_, rfl⟩), (Or.inr ⟨_, rfl⟩), X26, e26, E9, N26, Bq26⟩
          rw [show (pre ++ [(92 : Int32), (114 : Int32)]).length = pre.length + 2 from by simp, ← own_succ, ← own_succ] at hi
          exact hi
        · have hbc : ¬ (9 : Int32) < 0 ∧ ¬ (255 : Int32) < (9 : Int32) := by decide
          refine own_iloadN X1 hx hby od_prog_22_method_4_14 (pc' := 15) rfl rfl ?_
          refine own_aloadN X1 hx hby od_prog_22_method_4_15 (pc' := 16) rfl rfl rfl ?_
          refine own_virt X1 hx hby hml hZ hown (ow_16 hw) (ow_17 hw) (notFace_of_selects (args := #[]) (mvT hZ (ow_19 hw))) (ow_19 hw) (ow_18 hw) (by decide) (cc := 0) (ss := 0) (own_lenB (W := 1) hZ hw (S_n0.ext E1) (Nat.le_trans hl6 (by decide)) (S_cs0.ext E1) P5 (by decide) (by decide)) rfl (A_n0.ext E1) (argsL := []) (rest := [(.int (Int32.ofNat pre.length))]) opd_3 rfl rfl (Nat.le_refl _) od_prog_22_method_4_16 (pc' := 19) rfl rfl e1 (by decide) (by decide) ?_
          rintro v27 T27 h27 L27 X27 e27 ⟨hv27, hl27, hh27⟩
          subst hl27
          obtain rfl := hh27.symm
          obtain rfl := hv27
          have N27 := N1.app (Fr.nil n0)
          refine own_icmpN X27 hx hby od_prog_22_method_4_19 (pc' := 22) rfl (tlt (own_lt6 hlt hl6).2).2.1 ?_
          refine own_aloadN X27 hx hby od_prog_22_method_4_22 (pc' := 23) rfl rfl rfl ?_
          refine own_iloadN X27 hx hby od_prog_22_method_4_23 (pc' := 24) rfl rfl ?_
          refine own_virt X27 hx hby hml hZ hown (ow_135 hw) (ow_136 hw) (notFace_of_selects (args := #[]) (mvT hZ (ow_138 hw))) (ow_138 hw) (ow_137 hw) (by decide) (cc := 0) (ss := 0) (own_chB (W := 0) hZ hw (i := pre.length) (S_n0.ext E1) (Nat.le_trans hl6 (by decide)) (S_cs0.ext E1) P5 (S_f0.ext E1) rf hlt rfl (by decide) (by decide)) rfl (A_n0.ext E1) (argsL := [(.int (Int32.ofNat pre.length))]) (rest := []) opd_14 rfl rfl (Nat.le_refl _) od_prog_22_method_4_24 (pc' := 27) rfl rfl e27 (by decide) (by decide) ?_
          rintro v28 T28 h28 L28 X28 e28 ⟨hv28, hl28, hh28⟩
          rw [hg] at hv28
          subst hl28
          obtain rfl := hh28.symm
          obtain rfl := hv28
          have N28 := N27.app (Fr.nil n0)
          refine own_istore X28 hx hby od_prog_22_method_4_27 (pc' := 29) rfl (Ls' := #[.val (.ref nm), .val (.ref a2), .val (.ref b1), .val (.int (Int32.ofNat pre.length)), .val (.int (92 : Int32)), u5]) (own_sto4 hu4 hu5 _) ?_
          refine own_iload X28 hx hby od_prog_22_method_4_29 (pc' := 31) rfl rfl ?_
          refine own_bipush X28 hx hby od_prog_22_method_4_31 (pc' := 33) rfl (z := 92) rfl ?_
          refine own_icmpN X28 hx hby od_prog_22_method_4_33 (pc' := 36) rfl (teq rfl).2 ?_
          refine own_iloadN X28 hx hby od_prog_22_method_4_36 (pc' := 37) rfl rfl ?_
          refine own_iconst X28 hx hby od_prog_22_method_4_37 (pc' := 38) rfl (z := 1) rfl ?_
          refine own_iadd X28 hx hby od_prog_22_method_4_38 (pc' := 39) rfl ?_
          refine own_aloadN X28 hx hby od_prog_22_method_4_39 (pc' := 40) rfl rfl rfl ?_
          refine own_virt X28 hx hby hml hZ hown (ow_16 hw) (ow_17 hw) (notFace_of_selects (args := #[]) (mvT hZ (ow_19 hw))) (ow_19 hw) (ow_18 hw) (by decide) (cc := 0) (ss := 0) (own_lenB (W := 1) hZ hw (S_n0.ext E1) (Nat.le_trans hl6 (by decide)) (S_cs0.ext E1) P5 (by decide) (by decide)) rfl (A_n0.ext E1) (argsL := []) (rest := [(.int ((Int32.ofNat pre.length) + (1 : Int32)))]) opd_3 rfl rfl (Nat.le_refl _) od_prog_22_method_4_40 (pc' := 43) rfl rfl e28 (by decide) (by decide) ?_
          rintro v29 T29 h29 L29 X29 e29 ⟨hv29, hl29, hh29⟩
          subst hl29
          obtain rfl := hh29.symm
          obtain rfl := hv29
          have N29 := N28.app (Fr.nil n0)
          refine own_icmpN X29 hx hby od_prog_22_method_4_43 (pc' := 46) rfl (tlt (by rw [own_succ]; exact (own_lt6 hlt1 hl6).2)).2.1 ?_
          refine own_aloadN X29 hx hby od_prog_22_method_4_46 (pc' := 47) rfl rfl rfl ?_
          refine own_iinc X29 hx hby od_prog_22_method_4_47 (pc' := 50) rfl rfl (z := 1) rfl (Ls' := #[.val (.ref nm), .val (.ref a2), .val (.ref b1), .val (.int ((Int32.ofNat pre.length) + (1 : Int32))), .val (.int (92 : Int32)), u5]) rfl ?_
          refine own_iloadN X29 hx hby od_prog_22_method_4_50 (pc' := 51) rfl rfl ?_
          refine own_virt X29 hx hby hml hZ hown (ow_135 hw) (ow_136 hw) (notFace_of_selects (args := #[]) (mvT hZ (ow_138 hw))) (ow_138 hw) (ow_137 hw) (by decide) (cc := 0) (ss := 0) (own_chB (W := 0) hZ hw (i := (pre.length + 1)) (S_n0.ext E1) (Nat.le_trans hl6 (by decide)) (S_cs0.ext E1) P5 (S_f0.ext E1) rf hlt1 (own_succ _) (by decide) (by decide)) rfl (A_n0.ext E1) (argsL := [(.int ((Int32.ofNat pre.length) + (1 : Int32)))]) (rest := []) opd_14 rfl rfl (Nat.le_refl _) od_prog_22_method_4_51 (pc' := 54) rfl rfl e29 (by decide) (by decide) ?_
          rintro v30 T30 h30 L30 X30 e30 ⟨hv30, hl30, hh30⟩
          rw [hg1] at hv30
          subst hl30
          obtain rfl := hh30.symm
          obtain rfl := hv30
          have N30 := N29.app (Fr.nil n0)
          refine own_goto X30 hx hby od_prog_22_method_4_54 (by decide) (pc' := 59) (by decide) ?_
          refine own_istore X30 hx hby od_prog_22_method_4_59 (pc' := 61) rfl (Ls' := #[.val (.ref nm), .val (.ref a2), .val (.ref b1), .val (.int ((Int32.ofNat pre.length) + (1 : Int32))), .val (.int (92 : Int32)), .val (.int (116 : Int32))]) (own_sto5 hu5 _) ?_
          refine own_iload X30 hx hby od_prog_22_method_4_61 (pc' := 63) rfl rfl ?_
          refine own_lswitch X30 hx hby od_prog_22_method_4_63 (by decide) (a := 116) (off := 51) (by decide) (by decide) (pc' := 114) (by decide) ?_
          refine own_aloadN X30 hx hby od_prog_22_method_4_114 (pc' := 115) rfl rfl rfl ?_
          refine own_bipush X30 hx hby od_prog_22_method_4_115 (pc' := 117) rfl (z := 9) rfl ?_
          refine own_virtM X30 hx hby hml hZ hown (ow_156 hw) (ow_157 hw) (notFace_of_selects (args := #[]) (mvT hZ (ow_159 hw))) (ow_159 hw) (ow_158 hw) (ow_15 hw) (ow_160 hw) (by decide) (cc := 0) (ss := 0) (rm_app l Z a0 hw b1 vb kb ds cs.length (9 : Int32) G1 h1 n0 (Nat.le_trans Z0 E1.1) n0_b1 n0_vb B1 (S_cs0.ext E1) P5 hroom hbc) 0 rfl rfl (by decide) (by decide) rfl A_sb (argsL := [(.int (9 : Int32))]) (rest := []) opd_15 rfl rfl (Nat.le_refl _) od_prog_22_method_4_117 (pc' := 120) rfl rfl e30 (by decide) (by decide) ?_
          rintro v31 T31 h31 L31 X31 e31 ⟨rfl, Nq31, Kq31, Bq31⟩
          have N31 := N30.app Nq31
          have E9 := own_xk E1 Kq31 (allS le2 (allS levb0 all0))
          refine own_pop X31 hx hby od_prog_22_method_4_120 (pc' := 121) rfl rfl ?_
          refine own_goto X31 hx hby od_prog_22_method_4_121 (by decide) (pc' := 158) (by decide) ?_
          refine own_goto X31 hx hby od_prog_22_method_4_158 (by decide) (pc' := 168) (by decide) ?_
          refine own_iinc X31 hx hby od_prog_22_method_4_168 (pc' := 171) rfl rfl (z := 1) rfl (Ls' := #[.val (.ref nm), .val (.ref a2), .val (.ref b1), .val (.int (((Int32.ofNat pre.length) + (1 : Int32)) + (1 : Int32))), .val (.int (92 : Int32)), .val (.int (116 : Int32))]) rfl ?_
          refine own_goto X31 hx hby od_prog_22_method_4_171 (by decide) (pc' := 14) (by decide) ?_
          have hi := ih (pre ++ [(92 : Int32), (116 : Int32)]) (ds ++ [(9 : Int32)]) T31 h31 _ (.val (.int (92 : Int32))) (.val (.int (116 : Int32))) ⟨(fun t ht => hok t (List.mem_cons_of_mem _ ht)), (by rw [hcs]; simp [own_srcs]), (by rw [← ho]; simp [own_outs]), (by simp; omega), (Or.inr ⟨_, rfl⟩), (Or.inr ⟨_, rfl⟩), X31, e31, E9, N31, Bq31⟩
          rw [show (pre ++ [(92 : Int32), (116 : Int32)]).length = pre.length + 2 from by simp, ← own_succ, ← own_succ] at hi
          exact hi
  · intro J
    exact J (tks, [], [], T4, h4, _, .unset, .unset) ⟨hok, by simpa using hcs, by simpa using ho, Nat.le_refl _, Or.inl rfl, Or.inl rfl, X4, e4, Ea5, N4, Bq⟩
theorem ef_rm_plain (m : MethodId) (x0 : Int32) : entryFrame m #[(.int x0)] 2 = mkF m 0 #[.val (.int x0), .unset] [] := by first | (simp [entryFrame, mkF, argsToLocals, Value.category]; done) | rfl
set_option maxRecDepth 65536 in
set_option maxHeartbeats 40000000 in
theorem rm_plain (l : Launch) (Z : State) (a0 : Array Value) (hw : ∀ d ∈ tables_1, d.before a0 Z = true) (p1 : Int32) (h0 : Heap) (n0 : Nat) (Z0 : n0 ≤ h0.size) :
    own_Met l Z (⟨"com/example/nisaba/nisaba/TsvFileUnescapePinLaw", "plain", "(I)C"⟩ : MethodName) method_2_code 2 (some .char) ({ frames := 0, cells := 0, slots := 0, locals := 0 } : Room) #[(.int p1)] h0 (fun v h L => ∃ r : Int32, v = some (.int r) ∧ r = own_pl p1 ∧ Fr n0 L ∧ h0 = h) := by
  refine own_body (plainFor_of_name (by first | (simp [plainName, overriddenIn]; done) | decide +kernel)) ?_
  intro p e s m below meth c s₁ hx hby hml hown hnm hlk hrt hZ X0 e0
  refine own_enter (ef_rm_plain m p1) ?_
  have N0 := Fr.nil n0
  refine own_iloadN X0 hx hby od_method_2_0 (pc' := 1) rfl rfl ?_
  refine own_sipush X0 hx hby od_method_2_1 (pc' := 4) rfl (z := 255) rfl ?_
  refine own_iand X0 hx hby od_method_2_4 (pc' := 5) rfl ?_
  refine own_i2cE X0 hx hby od_method_2_5 (pc' := 6) rfl (own_mask_c _) ?_
  refine own_istoreN X0 hx hby od_method_2_6 (pc' := 7) rfl (Ls' := #[.val (.int p1), .val (.int (p1 &&& (255 : Int32)))]) rfl ?_
  refine own_iloadN X0 hx hby od_method_2_7 (pc' := 8) rfl rfl ?_
  refine own_bipush X0 hx hby od_method_2_8 (pc' := 10) rfl (z := 92) rfl ?_
  by_cases hc : (p1 &&& (255 : Int32)) = (92 : Int32)
  · refine own_icmpN X0 hx hby od_method_2_10 (pc' := 13) rfl (teq hc).2 ?_
    refine own_bipush X0 hx hby od_method_2_13 (pc' := 15) rfl (z := 110) rfl ?_
    exact own_retN X0 hx hby hlk hrt (by simp) od_method_2_15 (z' := (110 : Int32)) rfl (by first | exact ⟨_, rfl, (by simp [own_pl, hc]), N0, rfl⟩ | (rw [e0]; exact ⟨_, rfl, (by simp [own_pl, hc]), N0, rfl⟩)) (by decide) (by decide)
  · refine own_icmpY X0 hx hby od_method_2_10 (by decide) (pc' := 16) (by decide) (feq hc).2 ?_
    refine own_iloadN X0 hx hby od_method_2_16 (pc' := 17) rfl rfl ?_
    exact own_retN X0 hx hby hlk hrt (by simp) od_method_2_17 (z' := (p1 &&& (255 : Int32))) (own_mask_n p1) (by first | exact ⟨_, rfl, (by simp [own_pl, hc]), N0, rfl⟩ | (rw [e0]; exact ⟨_, rfl, (by simp [own_pl, hc]), N0, rfl⟩)) (by decide) (by decide)
theorem ef_rm_ise1 (m : MethodId) (x0 : Int32) : entryFrame m #[(.int x0)] 1 = mkF m 0 #[.val (.int x0)] [] := by first | (simp [entryFrame, mkF, argsToLocals, Value.category]; done) | rfl
set_option maxRecDepth 65536 in
set_option maxHeartbeats 40000000 in
theorem rm_ise1 (l : Launch) (Z : State) (a0 : Array Value) (hw : ∀ d ∈ tables_1, d.before a0 Z = true) (t : Int32) (h0 : Heap) (n0 : Nat) (Z0 : n0 ≤ h0.size) (he : (t &&& (7 : Int32)) < (4 : Int32)) :
    own_Met l Z (⟨"com/example/nisaba/nisaba/TsvFileUnescapePinLaw", "isEscape", "(I)Z"⟩ : MethodName) method_3_code 1 (some .boolean) ({ frames := 0, cells := 0, slots := 0, locals := 0 } : Room) #[(.int t)] h0 (fun v h L => v = some (.int (1 : Int32)) ∧ Fr n0 L ∧ h0 = h) := by
  refine own_body (plainFor_of_name (by first | (simp [plainName, overriddenIn]; done) | decide +kernel)) ?_
  intro p e s m below meth c s₁ hx hby hml hown hnm hlk hrt hZ X0 e0
  refine own_enter (ef_rm_ise1 m t) ?_
  have N0 := Fr.nil n0
  refine own_iloadN X0 hx hby od_method_3_0 (pc' := 1) rfl rfl ?_
  refine own_bipush X0 hx hby od_method_3_1 (pc' := 3) rfl (z := 7) rfl ?_
  refine own_iand X0 hx hby od_method_3_3 (pc' := 4) rfl ?_
  refine own_iconst X0 hx hby od_method_3_4 (pc' := 5) rfl (z := 4) rfl ?_
  refine own_icmpN X0 hx hby od_method_3_5 (pc' := 8) rfl (tlt he).2.1 ?_
  refine own_iconst X0 hx hby od_method_3_8 (pc' := 9) rfl (z := 1) rfl ?_
  refine own_goto X0 hx hby od_method_3_9 (by decide) (pc' := 13) (by decide) ?_
  exact own_retN X0 hx hby hlk hrt (by simp) od_method_3_13 (z' := (1 : Int32)) rfl (by first | exact ⟨rfl, N0, rfl⟩ | (rw [e0]; exact ⟨rfl, N0, rfl⟩)) (by decide) (by decide)
theorem ef_rm_ise0 (m : MethodId) (x0 : Int32) : entryFrame m #[(.int x0)] 1 = mkF m 0 #[.val (.int x0)] [] := by first | (simp [entryFrame, mkF, argsToLocals, Value.category]; done) | rfl
set_option maxRecDepth 65536 in
set_option maxHeartbeats 40000000 in
theorem rm_ise0 (l : Launch) (Z : State) (a0 : Array Value) (hw : ∀ d ∈ tables_1, d.before a0 Z = true) (t : Int32) (h0 : Heap) (n0 : Nat) (Z0 : n0 ≤ h0.size) (he : ¬ ((t &&& (7 : Int32)) < (4 : Int32))) :
    own_Met l Z (⟨"com/example/nisaba/nisaba/TsvFileUnescapePinLaw", "isEscape", "(I)Z"⟩ : MethodName) method_3_code 1 (some .boolean) ({ frames := 0, cells := 0, slots := 0, locals := 0 } : Room) #[(.int t)] h0 (fun v h L => v = some (.int (0 : Int32)) ∧ Fr n0 L ∧ h0 = h) := by
  refine own_body (plainFor_of_name (by first | (simp [plainName, overriddenIn]; done) | decide +kernel)) ?_
  intro p e s m below meth c s₁ hx hby hml hown hnm hlk hrt hZ X0 e0
  refine own_enter (ef_rm_ise0 m t) ?_
  have N0 := Fr.nil n0
  refine own_iloadN X0 hx hby od_method_3_0 (pc' := 1) rfl rfl ?_
  refine own_bipush X0 hx hby od_method_3_1 (pc' := 3) rfl (z := 7) rfl ?_
  refine own_iand X0 hx hby od_method_3_3 (pc' := 4) rfl ?_
  refine own_iconst X0 hx hby od_method_3_4 (pc' := 5) rfl (z := 4) rfl ?_
  refine own_icmpY X0 hx hby od_method_3_5 (by decide) (pc' := 12) (by decide) (flt he).2.1 ?_
  refine own_iconst X0 hx hby od_method_3_12 (pc' := 13) rfl (z := 0) rfl ?_
  exact own_retN X0 hx hby hlk hrt (by simp) od_method_3_13 (z' := (0 : Int32)) rfl (by first | exact ⟨rfl, N0, rfl⟩ | (rw [e0]; exact ⟨rfl, N0, rfl⟩)) (by decide) (by decide)
theorem ef_rm_letter (m : MethodId) (x0 : Int32) : entryFrame m #[(.int x0)] 1 = mkF m 0 #[.val (.int x0)] [] := by first | (simp [entryFrame, mkF, argsToLocals, Value.category]; done) | rfl
set_option maxRecDepth 65536 in
set_option maxHeartbeats 40000000 in
theorem rm_letter (l : Launch) (Z : State) (a0 : Array Value) (hw : ∀ d ∈ tables_1, d.before a0 Z = true) (t : Int32) (h0 : Heap) (n0 : Nat) (Z0 : n0 ≤ h0.size) :
    own_Met l Z (⟨"com/example/nisaba/nisaba/TsvFileUnescapePinLaw", "letter", "(I)C"⟩ : MethodName) method_4_code 1 (some .char) ({ frames := 0, cells := 0, slots := 0, locals := 0 } : Room) #[(.int t)] h0 (fun v h L => ∃ r : Int32, v = some (.int r) ∧ r = own_le t ∧ Fr n0 L ∧ h0 = h) := by
  refine own_body (plainFor_of_name (by first | (simp [plainName, overriddenIn]; done) | decide +kernel)) ?_
  intro p e s m below meth c s₁ hx hby hml hown hnm hlk hrt hZ X0 e0
  refine own_enter (ef_rm_letter m t) ?_
  have N0 := Fr.nil n0
  refine own_iloadN X0 hx hby od_method_4_0 (pc' := 1) rfl rfl ?_
  by_cases h0_ : t = (0 : Int32)
  · refine own_ifN X0 hx hby od_method_4_1 (pc' := 4) rfl (teq h0_).2 ?_
    refine own_bipush X0 hx hby od_method_4_4 (pc' := 6) rfl (z := 92) rfl ?_
    exact own_retN X0 hx hby hlk hrt (by simp) od_method_4_6 (z' := (92 : Int32)) rfl (by first | exact ⟨_, rfl, (by simp [own_le, h0_]), N0, rfl⟩ | (rw [e0]; exact ⟨_, rfl, (by simp [own_le, h0_]), N0, rfl⟩)) (by decide) (by decide)
  · refine own_ifY X0 hx hby od_method_4_1 (by decide) (pc' := 7) (by decide) (feq h0_).2 ?_
    refine own_iloadN X0 hx hby od_method_4_7 (pc' := 8) rfl rfl ?_
    refine own_iconst X0 hx hby od_method_4_8 (pc' := 9) rfl (z := 1) rfl ?_
    by_cases h1_ : t = (1 : Int32)
    · refine own_icmpN X0 hx hby od_method_4_9 (pc' := 12) rfl (teq h1_).2 ?_
      refine own_bipush X0 hx hby od_method_4_12 (pc' := 14) rfl (z := 116) rfl ?_
      exact own_retN X0 hx hby hlk hrt (by simp) od_method_4_14 (z' := (116 : Int32)) rfl (by first | exact ⟨_, rfl, (by simp [own_le, h0_, h1_]), N0, rfl⟩ | (rw [e0]; exact ⟨_, rfl, (by simp [own_le, h0_, h1_]), N0, rfl⟩)) (by decide) (by decide)
    · refine own_icmpY X0 hx hby od_method_4_9 (by decide) (pc' := 15) (by decide) (feq h1_).2 ?_
      refine own_iloadN X0 hx hby od_method_4_15 (pc' := 16) rfl rfl ?_
      refine own_iconst X0 hx hby od_method_4_16 (pc' := 17) rfl (z := 2) rfl ?_
      by_cases h2_ : t = (2 : Int32)
      · refine own_icmpN X0 hx hby od_method_4_17 (pc' := 20) rfl (teq h2_).2 ?_
        refine own_bipush X0 hx hby od_method_4_20 (pc' := 22) rfl (z := 110) rfl ?_
        exact own_retN X0 hx hby hlk hrt (by simp) od_method_4_22 (z' := (110 : Int32)) rfl (by first | exact ⟨_, rfl, (by simp [own_le, h0_, h1_, h2_]), N0, rfl⟩ | (rw [e0]; exact ⟨_, rfl, (by simp [own_le, h0_, h1_, h2_]), N0, rfl⟩)) (by decide) (by decide)
      · refine own_icmpY X0 hx hby od_method_4_17 (by decide) (pc' := 23) (by decide) (feq h2_).2 ?_
        refine own_bipush X0 hx hby od_method_4_23 (pc' := 25) rfl (z := 114) rfl ?_
        exact own_retN X0 hx hby hlk hrt (by simp) od_method_4_25 (z' := (114 : Int32)) rfl (by first | exact ⟨_, rfl, (by simp [own_le, h0_, h1_, h2_]), N0, rfl⟩ | (rw [e0]; exact ⟨_, rfl, (by simp [own_le, h0_, h1_, h2_]), N0, rfl⟩)) (by decide) (by decide)
theorem ef_rm_meaning (m : MethodId) (x0 : Int32) : entryFrame m #[(.int x0)] 1 = mkF m 0 #[.val (.int x0)] [] := by first | (simp [entryFrame, mkF, argsToLocals, Value.category]; done) | rfl
set_option maxRecDepth 65536 in
set_option maxHeartbeats 40000000 in
theorem rm_meaning (l : Launch) (Z : State) (a0 : Array Value) (hw : ∀ d ∈ tables_1, d.before a0 Z = true) (t : Int32) (h0 : Heap) (n0 : Nat) (Z0 : n0 ≤ h0.size) :
    own_Met l Z (⟨"com/example/nisaba/nisaba/TsvFileUnescapePinLaw", "meaning", "(I)C"⟩ : MethodName) method_5_code 1 (some .char) ({ frames := 0, cells := 0, slots := 0, locals := 0 } : Room) #[(.int t)] h0 (fun v h L => ∃ r : Int32, v = some (.int r) ∧ r = own_me t ∧ Fr n0 L ∧ h0 = h) := by
  refine own_body (plainFor_of_name (by first | (simp [plainName, overriddenIn]; done) | decide +kernel)) ?_
  intro p e s m below meth c s₁ hx hby hml hown hnm hlk hrt hZ X0 e0
  refine own_enter (ef_rm_meaning m t) ?_
  have N0 := Fr.nil n0
  refine own_iloadN X0 hx hby od_method_5_0 (pc' := 1) rfl rfl ?_
  by_cases h0_ : t = (0 : Int32)
  · refine own_ifN X0 hx hby od_method_5_1 (pc' := 4) rfl (teq h0_).2 ?_
    refine own_bipush X0 hx hby od_method_5_4 (pc' := 6) rfl (z := 92) rfl ?_
    exact own_retN X0 hx hby hlk hrt (by simp) od_method_5_6 (z' := (92 : Int32)) rfl (by first | exact ⟨_, rfl, (by simp [own_me, h0_]), N0, rfl⟩ | (rw [e0]; exact ⟨_, rfl, (by simp [own_me, h0_]), N0, rfl⟩)) (by decide) (by decide)
  · refine own_ifY X0 hx hby od_method_5_1 (by decide) (pc' := 7) (by decide) (feq h0_).2 ?_
    refine own_iloadN X0 hx hby od_method_5_7 (pc' := 8) rfl rfl ?_
    refine own_iconst X0 hx hby od_method_5_8 (pc' := 9) rfl (z := 1) rfl ?_
    by_cases h1_ : t = (1 : Int32)
    · refine own_icmpN X0 hx hby od_method_5_9 (pc' := 12) rfl (teq h1_).2 ?_
      refine own_bipush X0 hx hby od_method_5_12 (pc' := 14) rfl (z := 9) rfl ?_
      exact own_retN X0 hx hby hlk hrt (by simp) od_method_5_14 (z' := (9 : Int32)) rfl (by first | exact ⟨_, rfl, (by simp [own_me, h0_, h1_]), N0, rfl⟩ | (rw [e0]; exact ⟨_, rfl, (by simp [own_me, h0_, h1_]), N0, rfl⟩)) (by decide) (by decide)
    · refine own_icmpY X0 hx hby od_method_5_9 (by decide) (pc' := 15) (by decide) (feq h1_).2 ?_
      refine own_iloadN X0 hx hby od_method_5_15 (pc' := 16) rfl rfl ?_
      refine own_iconst X0 hx hby od_method_5_16 (pc' := 17) rfl (z := 2) rfl ?_
      by_cases h2_ : t = (2 : Int32)
      · refine own_icmpN X0 hx hby od_method_5_17 (pc' := 20) rfl (teq h2_).2 ?_
        refine own_bipush X0 hx hby od_method_5_20 (pc' := 22) rfl (z := 10) rfl ?_
        exact own_retN X0 hx hby hlk hrt (by simp) od_method_5_22 (z' := (10 : Int32)) rfl (by first | exact ⟨_, rfl, (by simp [own_me, h0_, h1_, h2_]), N0, rfl⟩ | (rw [e0]; exact ⟨_, rfl, (by simp [own_me, h0_, h1_, h2_]), N0, rfl⟩)) (by decide) (by decide)
      · refine own_icmpY X0 hx hby od_method_5_17 (by decide) (pc' := 23) (by decide) (feq h2_).2 ?_
        refine own_bipush X0 hx hby od_method_5_23 (pc' := 25) rfl (z := 13) rfl ?_
        exact own_retN X0 hx hby hlk hrt (by simp) od_method_5_25 (z' := (13 : Int32)) rfl (by first | exact ⟨_, rfl, (by simp [own_me, h0_, h1_, h2_]), N0, rfl⟩ | (rw [e0]; exact ⟨_, rfl, (by simp [own_me, h0_, h1_, h2_]), N0, rfl⟩)) (by decide) (by decide)
theorem ef_rm_put1_0 (m : MethodId) (x0 : Addr) (x1 : Int32) (x2 : Int32) : entryFrame m #[(.ref x0), (.int x1), (.int x2)] 3 = mkF m 0 #[.val (.ref x0), .val (.int x1), .val (.int x2)] [] := by first | (simp [entryFrame, mkF, argsToLocals, Value.category]; done) | rfl
set_option maxRecDepth 65536 in
set_option maxHeartbeats 40000000 in
theorem rm_put1_0 (l : Launch) (Z : State) (a0 : Array Value) (hw : ∀ d ∈ tables_1, d.before a0 Z = true) (a1 : Addr) (t : Int32) (v0 v1 v2 v3 v4 v5 : Value) (kc : ClassId) (h0 : Heap) (n0 : Nat) (Z0 : n0 ≤ h0.size) (n0_a1 : n0 ≤ a1) (V1 : Arv Z h0 a1 kc .char (6 : Int32) [v0, v1, v2, v3, v4, v5] (.int (0 : Int32))) (he : (t &&& (7 : Int32)) < (4 : Int32)) :
    own_Met l Z (⟨"com/example/nisaba/nisaba/TsvFileUnescapePinLaw", "put", "([CII)I"⟩ : MethodName) method_6_code 3 (some .int) ({ frames := 1, cells := 0, slots := 0, locals := 14 } : Room) #[(.ref a1), (.int (0 : Int32)), (.int t)] h0 (fun v h L => v = some (.int (2 : Int32)) ∧ Fr n0 L ∧ Keep h0 h [a1] ∧ Arv Z h a1 kc .char (6 : Int32) [(.int (92 : Int32)), (.int (own_le (t &&& (7 : Int32)))), v2, v3, v4, v5] (.int (0 : Int32))) := by
  refine own_body (plainFor_of_name (by first | (simp [plainName, overriddenIn]; done) | decide +kernel)) ?_
  intro p e s m below meth c s₁ hx hby hml hown hnm hlk hrt hZ X0 e0
  refine own_enter (ef_rm_put1_0 m a1 (0 : Int32) t) ?_
  have N0 := Fr.nil n0
  have K0 := Keep.refl h0 [a1]
  refine own_iloadN X0 hx hby od_method_6_0 (pc' := 1) rfl rfl ?_
  refine own_callM X0 hx hby hml hZ hown (ow_109 hw) (ow_110 hw) (ow_107 hw) (ow_111 hw) (by decide) (cc := 0) (ss := 0) (rm_ise1 l Z a0 hw t h0 n0 (Nat.le_trans Z0 K0.1) he) 0 rfl rfl (by decide) (by decide) rfl (argsL := [(.int t)]) (rest := []) opd_16 rfl rfl (Nat.le_refl _) od_method_6_1 (pc' := 4) rfl rfl e0 (by decide) (by decide) ?_
  rintro v1 T1 h1 L1 X1 e1 ⟨rfl, Nq1, rfl⟩
  have N1 := N0.app Nq1
  refine own_ifN X1 hx hby od_method_6_4 (pc' := 7) rfl (feq (by decide)).1 ?_
  refine own_aloadN X1 hx hby od_method_6_7 (pc' := 8) rfl rfl rfl ?_
  refine own_iloadN X1 hx hby od_method_6_8 (pc' := 9) rfl rfl ?_
  refine own_bipush X1 hx hby od_method_6_9 (pc' := 11) rfl (z := 92) rfl ?_
  refine own_stC X1 hx hby hZ e1 V1 ⟨by decide, by decide⟩ 0 rfl (Nat.le_of_ble_eq_true rfl) od_method_6_11 (pc' := 12) rfl ?_
  intro T2 h2 X2 e2 W2 V2_a1
  replace V2_a1 : Arv Z h2 a1 kc .char (6 : Int32) [(.int (nar .char (92 : Int32))), v1, v2, v3, v4, v5] (.int (0 : Int32)) := V2_a1
  have K3 := K0.wr W2 (Or.inl (List.mem_of_getElem? (i := 0) rfl))
  have N2 := own_fr1 (sl := ((0 : Int32)).toNatClampNeg) N1 n0_a1
  rw [own_92n] at V2_a1
  refine own_aloadN X2 hx hby od_method_6_12 (pc' := 13) rfl rfl rfl ?_
  refine own_iloadN X2 hx hby od_method_6_13 (pc' := 14) rfl rfl ?_
  refine own_iconst X2 hx hby od_method_6_14 (pc' := 15) rfl (z := 1) rfl ?_
  refine own_iadd X2 hx hby od_method_6_15 (pc' := 16) rfl ?_
  refine own_iloadN X2 hx hby od_method_6_16 (pc' := 17) rfl rfl ?_
  refine own_bipush X2 hx hby od_method_6_17 (pc' := 19) rfl (z := 7) rfl ?_
  refine own_iand X2 hx hby od_method_6_19 (pc' := 20) rfl ?_
  refine own_callM X2 hx hby hml hZ hown (ow_112 hw) (ow_113 hw) (ow_107 hw) (ow_114 hw) (by decide) (cc := 0) (ss := 0) (rm_letter l Z a0 hw (t &&& (7 : Int32)) h2 n0 (Nat.le_trans Z0 K3.1)) 2 rfl rfl (by decide) (by decide) rfl (argsL := [(.int (t &&& (7 : Int32)))]) (rest := [(.int ((0 : Int32) + (1 : Int32))), (.ref a1)]) opd_14 rfl rfl (Nat.le_refl _) od_method_6_20 (pc' := 23) rfl rfl e2 (by decide) (by decide) ?_
  rintro v4 T4 h4 L4 X4 e4 ⟨_, rfl, rfl, Nq4, rfl⟩
  have N4 := N2.app Nq4
  refine own_stC X4 hx hby hZ e4 V2_a1 ⟨by decide, by decide⟩ 1 rfl (Nat.le_of_ble_eq_true rfl) od_method_6_23 (pc' := 24) rfl ?_
  intro T5 h5 X5 e5 W5 V5_a1
  replace V5_a1 : Arv Z h5 a1 kc .char (6 : Int32) [(.int (92 : Int32)), (.int (nar .char (own_le (t &&& (7 : Int32))))), v2, v3, v4, v5] (.int (0 : Int32)) := V5_a1
  have K6 := K3.wr W5 (Or.inl (List.mem_of_getElem? (i := 0) rfl))
  have N5 := own_fr1 (sl := (((0 : Int32) + (1 : Int32))).toNatClampNeg) N4 n0_a1
  rw [own_le_n] at V5_a1
  refine own_iloadN X5 hx hby od_method_6_24 (pc' := 25) rfl rfl ?_
  refine own_iconst X5 hx hby od_method_6_25 (pc' := 26) rfl (z := 2) rfl ?_
  refine own_iadd X5 hx hby od_method_6_26 (pc' := 27) rfl ?_
  exact own_retI X5 hx hby hlk hrt od_method_6_27 (by first | exact ⟨rfl, N5, K6, V5_a1⟩ | (rw [e5]; exact ⟨rfl, N5, K6, V5_a1⟩)) (by decide) (by decide)
theorem ef_rm_put1_1 (m : MethodId) (x0 : Addr) (x1 : Int32) (x2 : Int32) : entryFrame m #[(.ref x0), (.int x1), (.int x2)] 3 = mkF m 0 #[.val (.ref x0), .val (.int x1), .val (.int x2)] [] := by first | (simp [entryFrame, mkF, argsToLocals, Value.category]; done) | rfl
set_option maxRecDepth 65536 in
set_option maxHeartbeats 40000000 in
theorem rm_put1_1 (l : Launch) (Z : State) (a0 : Array Value) (hw : ∀ d ∈ tables_1, d.before a0 Z = true) (a1 : Addr) (t : Int32) (v0 v1 v2 v3 v4 v5 : Value) (kc : ClassId) (h0 : Heap) (n0 : Nat) (Z0 : n0 ≤ h0.size) (n0_a1 : n0 ≤ a1) (V1 : Arv Z h0 a1 kc .char (6 : Int32) [v0, v1, v2, v3, v4, v5] (.int (0 : Int32))) (he : (t &&& (7 : Int32)) < (4 : Int32)) :
    own_Met l Z (⟨"com/example/nisaba/nisaba/TsvFileUnescapePinLaw", "put", "([CII)I"⟩ : MethodName) method_6_code 3 (some .int) ({ frames := 1, cells := 0, slots := 0, locals := 14 } : Room) #[(.ref a1), (.int (1 : Int32)), (.int t)] h0 (fun v h L => v = some (.int (3 : Int32)) ∧ Fr n0 L ∧ Keep h0 h [a1] ∧ Arv Z h a1 kc .char (6 : Int32) [v0, (.int (92 : Int32)), (.int (own_le (t &&& (7 : Int32)))), v3, v4, v5] (.int (0 : Int32))) := by
  refine own_body (plainFor_of_name (by first | (simp [plainName, overriddenIn]; done) | decide +kernel)) ?_
  intro p e s m below meth c s₁ hx hby hml hown hnm hlk hrt hZ X0 e0
  refine own_enter (ef_rm_put1_1 m a1 (1 : Int32) t) ?_
  have N0 := Fr.nil n0
  have K0 := Keep.refl h0 [a1]
  refine own_iloadN X0 hx hby od_method_6_0 (pc' := 1) rfl rfl ?_
  refine own_callM X0 hx hby hml hZ hown (ow_109 hw) (ow_110 hw) (ow_107 hw) (ow_111 hw) (by decide) (cc := 0) (ss := 0) (rm_ise1 l Z a0 hw t h0 n0 (Nat.le_trans Z0 K0.1) he) 0 rfl rfl (by decide) (by decide) rfl (argsL := [(.int t)]) (rest := []) opd_16 rfl rfl (Nat.le_refl _) od_method_6_1 (pc' := 4) rfl rfl e0 (by decide) (by decide) ?_
  rintro v1 T1 h1 L1 X1 e1 ⟨rfl, Nq1, rfl⟩
  have N1 := N0.app Nq1
  refine own_ifN X1 hx hby od_method_6_4 (pc' := 7) rfl (feq (by decide)).1 ?_
  refine own_aloadN X1 hx hby od_method_6_7 (pc' := 8) rfl rfl rfl ?_
  refine own_iloadN X1 hx hby od_method_6_8 (pc' := 9) rfl rfl ?_
  refine own_bipush X1 hx hby od_method_6_9 (pc' := 11) rfl (z := 92) rfl ?_
  refine own_stC X1 hx hby hZ e1 V1 ⟨by decide, by decide⟩ 1 rfl (Nat.le_of_ble_eq_true rfl) od_method_6_11 (pc' := 12) rfl ?_
  intro T2 h2 X2 e2 W2 V2_a1
  replace V2_a1 : Arv Z h2 a1 kc .char (6 : Int32) [v0, (.int (nar .char (92 : Int32))), v2, v3, v4, v5] (.int (0 : Int32)) := V2_a1
  have K3 := K0.wr W2 (Or.inl (List.mem_of_getElem? (i := 0) rfl))
  have N2 := own_fr1 (sl := ((1 : Int32)).toNatClampNeg) N1 n0_a1
  rw [own_92n] at V2_a1
  refine own_aloadN X2 hx hby od_method_6_12 (pc' := 13) rfl rfl rfl ?_
  refine own_iloadN X2 hx hby od_method_6_13 (pc' := 14) rfl rfl ?_
  refine own_iconst X2 hx hby od_method_6_14 (pc' := 15) rfl (z := 1) rfl ?_
  refine own_iadd X2 hx hby od_method_6_15 (pc' := 16) rfl ?_
  refine own_iloadN X2 hx hby od_method_6_16 (pc' := 17) rfl rfl ?_
  refine own_bipush X2 hx hby od_method_6_17 (pc' := 19) rfl (z := 7) rfl ?_
  refine own_iand X2 hx hby od_method_6_19 (pc' := 20) rfl ?_
  refine own_callM X2 hx hby hml hZ hown (ow_112 hw) (ow_113 hw) (ow_107 hw) (ow_114 hw) (by decide) (cc := 0) (ss := 0) (rm_letter l Z a0 hw (t &&& (7 : Int32)) h2 n0 (Nat.le_trans Z0 K3.1)) 2 rfl rfl (by decide) (by decide) rfl (argsL := [(.int (t &&& (7 : Int32)))]) (rest := [(.int ((1 : Int32) + (1 : Int32))), (.ref a1)]) opd_14 rfl rfl (Nat.le_refl _) od_method_6_20 (pc' := 23) rfl rfl e2 (by decide) (by decide) ?_
  rintro v4 T4 h4 L4 X4 e4 ⟨_, rfl, rfl, Nq4, rfl⟩
  have N4 := N2.app Nq4
  refine own_stC X4 hx hby hZ e4 V2_a1 ⟨by decide, by decide⟩ 2 rfl (Nat.le_of_ble_eq_true rfl) od_method_6_23 (pc' := 24) rfl ?_
  intro T5 h5 X5 e5 W5 V5_a1
  replace V5_a1 : Arv Z h5 a1 kc .char (6 : Int32) [v0, (.int (92 : Int32)), (.int (nar .char (own_le (t &&& (7 : Int32))))), v3, v4, v5] (.int (0 : Int32)) := V5_a1
  have K6 := K3.wr W5 (Or.inl (List.mem_of_getElem? (i := 0) rfl))
  have N5 := own_fr1 (sl := (((1 : Int32) + (1 : Int32))).toNatClampNeg) N4 n0_a1
  rw [own_le_n] at V5_a1
  refine own_iloadN X5 hx hby od_method_6_24 (pc' := 25) rfl rfl ?_
  refine own_iconst X5 hx hby od_method_6_25 (pc' := 26) rfl (z := 2) rfl ?_
  refine own_iadd X5 hx hby od_method_6_26 (pc' := 27) rfl ?_
  exact own_retI X5 hx hby hlk hrt od_method_6_27 (by first | exact ⟨rfl, N5, K6, V5_a1⟩ | (rw [e5]; exact ⟨rfl, N5, K6, V5_a1⟩)) (by decide) (by decide)
theorem ef_rm_put1_2 (m : MethodId) (x0 : Addr) (x1 : Int32) (x2 : Int32) : entryFrame m #[(.ref x0), (.int x1), (.int x2)] 3 = mkF m 0 #[.val (.ref x0), .val (.int x1), .val (.int x2)] [] := by first | (simp [entryFrame, mkF, argsToLocals, Value.category]; done) | rfl
set_option maxRecDepth 65536 in
set_option maxHeartbeats 40000000 in
theorem rm_put1_2 (l : Launch) (Z : State) (a0 : Array Value) (hw : ∀ d ∈ tables_1, d.before a0 Z = true) (a1 : Addr) (t : Int32) (v0 v1 v2 v3 v4 v5 : Value) (kc : ClassId) (h0 : Heap) (n0 : Nat) (Z0 : n0 ≤ h0.size) (n0_a1 : n0 ≤ a1) (V1 : Arv Z h0 a1 kc .char (6 : Int32) [v0, v1, v2, v3, v4, v5] (.int (0 : Int32))) (he : (t &&& (7 : Int32)) < (4 : Int32)) :
    own_Met l Z (⟨"com/example/nisaba/nisaba/TsvFileUnescapePinLaw", "put", "([CII)I"⟩ : MethodName) method_6_code 3 (some .int) ({ frames := 1, cells := 0, slots := 0, locals := 14 } : Room) #[(.ref a1), (.int (2 : Int32)), (.int t)] h0 (fun v h L => v = some (.int (4 : Int32)) ∧ Fr n0 L ∧ Keep h0 h [a1] ∧ Arv Z h a1 kc .char (6 : Int32) [v0, v1, (.int (92 : Int32)), (.int (own_le (t &&& (7 : Int32)))), v4, v5] (.int (0 : Int32))) := by
  refine own_body (plainFor_of_name (by first | (simp [plainName, overriddenIn]; done) | decide +kernel)) ?_
  intro p e s m below meth c s₁ hx hby hml hown hnm hlk hrt hZ X0 e0
  refine own_enter (ef_rm_put1_2 m a1 (2 : Int32) t) ?_
  have N0 := Fr.nil n0
  have K0 := Keep.refl h0 [a1]
  refine own_iloadN X0 hx hby od_method_6_0 (pc' := 1) rfl rfl ?_
  refine own_callM X0 hx hby hml hZ hown (ow_109 hw) (ow_110 hw) (ow_107 hw) (ow_111 hw) (by decide) (cc := 0) (ss := 0) (rm_ise1 l Z a0 hw t h0 n0 (Nat.le_trans Z0 K0.1) he) 0 rfl rfl (by decide) (by decide) rfl (argsL := [(.int t)]) (rest := []) opd_16 rfl rfl (Nat.le_refl _) od_method_6_1 (pc' := 4) rfl rfl e0 (by decide) (by decide) ?_
  rintro v1 T1 h1 L1 X1 e1 ⟨rfl, Nq1, rfl⟩
  have N1 := N0.app Nq1
  refine own_ifN X1 hx hby od_method_6_4 (pc' := 7) rfl (feq (by decide)).1 ?_
  refine own_aloadN X1 hx hby od_method_6_7 (pc' := 8) rfl rfl rfl ?_
  refine own_iloadN X1 hx hby od_method_6_8 (pc' := 9) rfl rfl ?_
  refine own_bipush X1 hx hby od_method_6_9 (pc' := 11) rfl (z := 92) rfl ?_
  refine own_stC X1 hx hby hZ e1 V1 ⟨by decide, by decide⟩ 2 rfl (Nat.le_of_ble_eq_true rfl) od_method_6_11 (pc' := 12) rfl ?_
  intro T2 h2 X2 e2 W2 V2_a1
  replace V2_a1 : Arv Z h2 a1 kc .char (6 : Int32) [v0, v1, (.int (nar .char (92 : Int32))), v3, v4, v5] (.int (0 : Int32)) := V2_a1
  have K3 := K0.wr W2 (Or.inl (List.mem_of_getElem? (i := 0) rfl))
  have N2 := own_fr1 (sl := ((2 : Int32)).toNatClampNeg) N1 n0_a1
  rw [own_92n] at V2_a1
  refine own_aloadN X2 hx hby od_method_6_12 (pc' := 13) rfl rfl rfl ?_
  refine own_iloadN X2 hx hby od_method_6_13 (pc' := 14) rfl rfl ?_
  refine own_iconst X2 hx hby od_method_6_14 (pc' := 15) rfl (z := 1) rfl ?_
  refine own_iadd X2 hx hby od_method_6_15 (pc' := 16) rfl ?_
  refine own_iloadN X2 hx hby od_method_6_16 (pc' := 17) rfl rfl ?_
  refine own_bipush X2 hx hby od_method_6_17 (pc' := 19) rfl (z := 7) rfl ?_
  refine own_iand X2 hx hby od_method_6_19 (pc' := 20) rfl ?_
  refine own_callM X2 hx hby hml hZ hown (ow_112 hw) (ow_113 hw) (ow_107 hw) (ow_114 hw) (by decide) (cc := 0) (ss := 0) (rm_letter l Z a0 hw (t &&& (7 : Int32)) h2 n0 (Nat.le_trans Z0 K3.1)) 2 rfl rfl (by decide) (by decide) rfl (argsL := [(.int (t &&& (7 : Int32)))]) (rest := [(.int ((2 : Int32) + (1 : Int32))), (.ref a1)]) opd_14 rfl rfl (Nat.le_refl _) od_method_6_20 (pc' := 23) rfl rfl e2 (by decide) (by decide) ?_
  rintro v4 T4 h4 L4 X4 e4 ⟨_, rfl, rfl, Nq4, rfl⟩
  have N4 := N2.app Nq4
  refine own_stC X4 hx hby hZ e4 V2_a1 ⟨by decide, by decide⟩ 3 rfl (Nat.le_of_ble_eq_true rfl) od_method_6_23 (pc' := 24) rfl ?_
  intro T5 h5 X5 e5 W5 V5_a1
  replace V5_a1 : Arv Z h5 a1 kc .char (6 : Int32) [v0, v1, (.int (92 : Int32)), (.int (nar .char (own_le (t &&& (7 : Int32))))), v4, v5] (.int (0 : Int32)) := V5_a1
  have K6 := K3.wr W5 (Or.inl (List.mem_of_getElem? (i := 0) rfl))
  have N5 := own_fr1 (sl := (((2 : Int32) + (1 : Int32))).toNatClampNeg) N4 n0_a1
  rw [own_le_n] at V5_a1
  refine own_iloadN X5 hx hby od_method_6_24 (pc' := 25) rfl rfl ?_
  refine own_iconst X5 hx hby od_method_6_25 (pc' := 26) rfl (z := 2) rfl ?_
  refine own_iadd X5 hx hby od_method_6_26 (pc' := 27) rfl ?_
  exact own_retI X5 hx hby hlk hrt od_method_6_27 (by first | exact ⟨rfl, N5, K6, V5_a1⟩ | (rw [e5]; exact ⟨rfl, N5, K6, V5_a1⟩)) (by decide) (by decide)
theorem ef_rm_put1_3 (m : MethodId) (x0 : Addr) (x1 : Int32) (x2 : Int32) : entryFrame m #[(.ref x0), (.int x1), (.int x2)] 3 = mkF m 0 #[.val (.ref x0), .val (.int x1), .val (.int x2)] [] := by first | (simp [entryFrame, mkF, argsToLocals, Value.category]; done) | rfl
set_option maxRecDepth 65536 in
set_option maxHeartbeats 40000000 in
theorem rm_put1_3 (l : Launch) (Z : State) (a0 : Array Value) (hw : ∀ d ∈ tables_1, d.before a0 Z = true) (a1 : Addr) (t : Int32) (v0 v1 v2 v3 v4 v5 : Value) (kc : ClassId) (h0 : Heap) (n0 : Nat) (Z0 : n0 ≤ h0.size) (n0_a1 : n0 ≤ a1) (V1 : Arv Z h0 a1 kc .char (6 : Int32) [v0, v1, v2, v3, v4, v5] (.int (0 : Int32))) (he : (t &&& (7 : Int32)) < (4 : Int32)) :
    own_Met l Z (⟨"com/example/nisaba/nisaba/TsvFileUnescapePinLaw", "put", "([CII)I"⟩ : MethodName) method_6_code 3 (some .int) ({ frames := 1, cells := 0, slots := 0, locals := 14 } : Room) #[(.ref a1), (.int (3 : Int32)), (.int t)] h0 (fun v h L => v = some (.int (5 : Int32)) ∧ Fr n0 L ∧ Keep h0 h [a1] ∧ Arv Z h a1 kc .char (6 : Int32) [v0, v1, v2, (.int (92 : Int32)), (.int (own_le (t &&& (7 : Int32)))), v5] (.int (0 : Int32))) := by
  refine own_body (plainFor_of_name (by first | (simp [plainName, overriddenIn]; done) | decide +kernel)) ?_
  intro p e s m below meth c s₁ hx hby hml hown hnm hlk hrt hZ X0 e0
  refine own_enter (ef_rm_put1_3 m a1 (3 : Int32) t) ?_
  have N0 := Fr.nil n0
  have K0 := Keep.refl h0 [a1]
  refine own_iloadN X0 hx hby od_method_6_0 (pc' := 1) rfl rfl ?_
  refine own_callM X0 hx hby hml hZ hown (ow_109 hw) (ow_110 hw) (ow_107 hw) (ow_111 hw) (by decide) (cc := 0) (ss := 0) (rm_ise1 l Z a0 hw t h0 n0 (Nat.le_trans Z0 K0.1) he) 0 rfl rfl (by decide) (by decide) rfl (argsL := [(.int t)]) (rest := []) opd_16 rfl rfl (Nat.le_refl _) od_method_6_1 (pc' := 4) rfl rfl e0 (by decide) (by decide) ?_
  rintro v1 T1 h1 L1 X1 e1 ⟨rfl, Nq1, rfl⟩
  have N1 := N0.app Nq1
  refine own_ifN X1 hx hby od_method_6_4 (pc' := 7) rfl (feq (by decide)).1 ?_
  refine own_aloadN X1 hx hby od_method_6_7 (pc' := 8) rfl rfl rfl ?_
  refine own_iloadN X1 hx hby od_method_6_8 (pc' := 9) rfl rfl ?_
  refine own_bipush X1 hx hby od_method_6_9 (pc' := 11) rfl (z := 92) rfl ?_
  refine own_stC X1 hx hby hZ e1 V1 ⟨by decide, by decide⟩ 3 rfl (Nat.le_of_ble_eq_true rfl) od_method_6_11 (pc' := 12) rfl ?_
  intro T2 h2 X2 e2 W2 V2_a1
  replace V2_a1 : Arv Z h2 a1 kc .char (6 : Int32) [v0, v1, v2, (.int (nar .char (92 : Int32))), v4, v5] (.int (0 : Int32)) := V2_a1
  have K3 := K0.wr W2 (Or.inl (List.mem_of_getElem? (i := 0) rfl))
  have N2 := own_fr1 (sl := ((3 : Int32)).toNatClampNeg) N1 n0_a1
  rw [own_92n] at V2_a1
  refine own_aloadN X2 hx hby od_method_6_12 (pc' := 13) rfl rfl rfl ?_
  refine own_iloadN X2 hx hby od_method_6_13 (pc' := 14) rfl rfl ?_
  refine own_iconst X2 hx hby od_method_6_14 (pc' := 15) rfl (z := 1) rfl ?_
  refine own_iadd X2 hx hby od_method_6_15 (pc' := 16) rfl ?_
  refine own_iloadN X2 hx hby od_method_6_16 (pc' := 17) rfl rfl ?_
  refine own_bipush X2 hx hby od_method_6_17 (pc' := 19) rfl (z := 7) rfl ?_
  refine own_iand X2 hx hby od_method_6_19 (pc' := 20) rfl ?_
  refine own_callM X2 hx hby hml hZ hown (ow_112 hw) (ow_113 hw) (ow_107 hw) (ow_114 hw) (by decide) (cc := 0) (ss := 0) (rm_letter l Z a0 hw (t &&& (7 : Int32)) h2 n0 (Nat.le_trans Z0 K3.1)) 2 rfl rfl (by decide) (by decide) rfl (argsL := [(.int (t &&& (7 : Int32)))]) (rest := [(.int ((3 : Int32) + (1 : Int32))), (.ref a1)]) opd_14 rfl rfl (Nat.le_refl _) od_method_6_20 (pc' := 23) rfl rfl e2 (by decide) (by decide) ?_
  rintro v4 T4 h4 L4 X4 e4 ⟨_, rfl, rfl, Nq4, rfl⟩
  have N4 := N2.app Nq4
  refine own_stC X4 hx hby hZ e4 V2_a1 ⟨by decide, by decide⟩ 4 rfl (Nat.le_of_ble_eq_true rfl) od_method_6_23 (pc' := 24) rfl ?_
  intro T5 h5 X5 e5 W5 V5_a1
  replace V5_a1 : Arv Z h5 a1 kc .char (6 : Int32) [v0, v1, v2, (.int (92 : Int32)), (.int (nar .char (own_le (t &&& (7 : Int32))))), v5] (.int (0 : Int32)) := V5_a1
  have K6 := K3.wr W5 (Or.inl (List.mem_of_getElem? (i := 0) rfl))
  have N5 := own_fr1 (sl := (((3 : Int32) + (1 : Int32))).toNatClampNeg) N4 n0_a1
  rw [own_le_n] at V5_a1
  refine own_iloadN X5 hx hby od_method_6_24 (pc' := 25) rfl rfl ?_
  refine own_iconst X5 hx hby od_method_6_25 (pc' := 26) rfl (z := 2) rfl ?_
  refine own_iadd X5 hx hby od_method_6_26 (pc' := 27) rfl ?_
  exact own_retI X5 hx hby hlk hrt od_method_6_27 (by first | exact ⟨rfl, N5, K6, V5_a1⟩ | (rw [e5]; exact ⟨rfl, N5, K6, V5_a1⟩)) (by decide) (by decide)
theorem ef_rm_put1_4 (m : MethodId) (x0 : Addr) (x1 : Int32) (x2 : Int32) : entryFrame m #[(.ref x0), (.int x1), (.int x2)] 3 = mkF m 0 #[.val (.ref x0), .val (.int x1), .val (.int x2)] [] := by first | (simp [entryFrame, mkF, argsToLocals, Value.category]; done) | rfl
set_option maxRecDepth 65536 in
set_option maxHeartbeats 40000000 in
theorem rm_put1_4 (l : Launch) (Z : State) (a0 : Array Value) (hw : ∀ d ∈ tables_1, d.before a0 Z = true) (a1 : Addr) (t : Int32) (v0 v1 v2 v3 v4 v5 : Value) (kc : ClassId) (h0 : Heap) (n0 : Nat) (Z0 : n0 ≤ h0.size) (n0_a1 : n0 ≤ a1) (V1 : Arv Z h0 a1 kc .char (6 : Int32) [v0, v1, v2, v3, v4, v5] (.int (0 : Int32))) (he : (t &&& (7 : Int32)) < (4 : Int32)) :
    own_Met l Z (⟨"com/example/nisaba/nisaba/TsvFileUnescapePinLaw", "put", "([CII)I"⟩ : MethodName) method_6_code 3 (some .int) ({ frames := 1, cells := 0, slots := 0, locals := 14 } : Room) #[(.ref a1), (.int (4 : Int32)), (.int t)] h0 (fun v h L => v = some (.int (6 : Int32)) ∧ Fr n0 L ∧ Keep h0 h [a1] ∧ Arv Z h a1 kc .char (6 : Int32) [v0, v1, v2, v3, (.int (92 : Int32)), (.int (own_le (t &&& (7 : Int32))))] (.int (0 : Int32))) := by
  refine own_body (plainFor_of_name (by first | (simp [plainName, overriddenIn]; done) | decide +kernel)) ?_
  intro p e s m below meth c s₁ hx hby hml hown hnm hlk hrt hZ X0 e0
  refine own_enter (ef_rm_put1_4 m a1 (4 : Int32) t) ?_
  have N0 := Fr.nil n0
  have K0 := Keep.refl h0 [a1]
  refine own_iloadN X0 hx hby od_method_6_0 (pc' := 1) rfl rfl ?_
  refine own_callM X0 hx hby hml hZ hown (ow_109 hw) (ow_110 hw) (ow_107 hw) (ow_111 hw) (by decide) (cc := 0) (ss := 0) (rm_ise1 l Z a0 hw t h0 n0 (Nat.le_trans Z0 K0.1) he) 0 rfl rfl (by decide) (by decide) rfl (argsL := [(.int t)]) (rest := []) opd_16 rfl rfl (Nat.le_refl _) od_method_6_1 (pc' := 4) rfl rfl e0 (by decide) (by decide) ?_
  rintro v1 T1 h1 L1 X1 e1 ⟨rfl, Nq1, rfl⟩
  have N1 := N0.app Nq1
  refine own_ifN X1 hx hby od_method_6_4 (pc' := 7) rfl (feq (by decide)).1 ?_
  refine own_aloadN X1 hx hby od_method_6_7 (pc' := 8) rfl rfl rfl ?_
  refine own_iloadN X1 hx hby od_method_6_8 (pc' := 9) rfl rfl ?_
  refine own_bipush X1 hx hby od_method_6_9 (pc' := 11) rfl (z := 92) rfl ?_
  refine own_stC X1 hx hby hZ e1 V1 ⟨by decide, by decide⟩ 4 rfl (Nat.le_of_ble_eq_true rfl) od_method_6_11 (pc' := 12) rfl ?_
  intro T2 h2 X2 e2 W2 V2_a1
  replace V2_a1 : Arv Z h2 a1 kc .char (6 : Int32) [v0, v1, v2, v3, (.int (nar .char (92 : Int32))), v5] (.int (0 : Int32)) := V2_a1
  have K3 := K0.wr W2 (Or.inl (List.mem_of_getElem? (i := 0) rfl))
  have N2 := own_fr1 (sl := ((4 : Int32)).toNatClampNeg) N1 n0_a1
  rw [own_92n] at V2_a1
  refine own_aloadN X2 hx hby od_method_6_12 (pc' := 13) rfl rfl rfl ?_
  refine own_iloadN X2 hx hby od_method_6_13 (pc' := 14) rfl rfl ?_
  refine own_iconst X2 hx hby od_method_6_14 (pc' := 15) rfl (z := 1) rfl ?_
  refine own_iadd X2 hx hby od_method_6_15 (pc' := 16) rfl ?_
  refine own_iloadN X2 hx hby od_method_6_16 (pc' := 17) rfl rfl ?_
  refine own_bipush X2 hx hby od_method_6_17 (pc' := 19) rfl (z := 7) rfl ?_
  refine own_iand X2 hx hby od_method_6_19 (pc' := 20) rfl ?_
  refine own_callM X2 hx hby hml hZ hown (ow_112 hw) (ow_113 hw) (ow_107 hw) (ow_114 hw) (by decide) (cc := 0) (ss := 0) (rm_letter l Z a0 hw (t &&& (7 : Int32)) h2 n0 (Nat.le_trans Z0 K3.1)) 2 rfl rfl (by decide) (by decide) rfl (argsL := [(.int (t &&& (7 : Int32)))]) (rest := [(.int ((4 : Int32) + (1 : Int32))), (.ref a1)]) opd_14 rfl rfl (Nat.le_refl _) od_method_6_20 (pc' := 23) rfl rfl e2 (by decide) (by decide) ?_
  rintro v4 T4 h4 L4 X4 e4 ⟨_, rfl, rfl, Nq4, rfl⟩
  have N4 := N2.app Nq4
  refine own_stC X4 hx hby hZ e4 V2_a1 ⟨by decide, by decide⟩ 5 rfl (Nat.le_of_ble_eq_true rfl) od_method_6_23 (pc' := 24) rfl ?_
  intro T5 h5 X5 e5 W5 V5_a1
  replace V5_a1 : Arv Z h5 a1 kc .char (6 : Int32) [v0, v1, v2, v3, (.int (92 : Int32)), (.int (nar .char (own_le (t &&& (7 : Int32)))))] (.int (0 : Int32)) := V5_a1
  have K6 := K3.wr W5 (Or.inl (List.mem_of_getElem? (i := 0) rfl))
  have N5 := own_fr1 (sl := (((4 : Int32) + (1 : Int32))).toNatClampNeg) N4 n0_a1
  rw [own_le_n] at V5_a1
  refine own_iloadN X5 hx hby od_method_6_24 (pc' := 25) rfl rfl ?_
  refine own_iconst X5 hx hby od_method_6_25 (pc' := 26) rfl (z := 2) rfl ?_
  refine own_iadd X5 hx hby od_method_6_26 (pc' := 27) rfl ?_
  exact own_retI X5 hx hby hlk hrt od_method_6_27 (by first | exact ⟨rfl, N5, K6, V5_a1⟩ | (rw [e5]; exact ⟨rfl, N5, K6, V5_a1⟩)) (by decide) (by decide)
theorem ef_rm_put0_0 (m : MethodId) (x0 : Addr) (x1 : Int32) (x2 : Int32) : entryFrame m #[(.ref x0), (.int x1), (.int x2)] 3 = mkF m 0 #[.val (.ref x0), .val (.int x1), .val (.int x2)] [] := by first | (simp [entryFrame, mkF, argsToLocals, Value.category]; done) | rfl
set_option maxRecDepth 65536 in
set_option maxHeartbeats 40000000 in
theorem rm_put0_0 (l : Launch) (Z : State) (a0 : Array Value) (hw : ∀ d ∈ tables_1, d.before a0 Z = true) (a1 : Addr) (t : Int32) (v0 v1 v2 v3 v4 v5 : Value) (kc : ClassId) (h0 : Heap) (n0 : Nat) (Z0 : n0 ≤ h0.size) (n0_a1 : n0 ≤ a1) (V1 : Arv Z h0 a1 kc .char (6 : Int32) [v0, v1, v2, v3, v4, v5] (.int (0 : Int32))) (he : ¬ ((t &&& (7 : Int32)) < (4 : Int32))) :
    own_Met l Z (⟨"com/example/nisaba/nisaba/TsvFileUnescapePinLaw", "put", "([CII)I"⟩ : MethodName) method_6_code 3 (some .int) ({ frames := 1, cells := 0, slots := 0, locals := 15 } : Room) #[(.ref a1), (.int (0 : Int32)), (.int t)] h0 (fun v h L => v = some (.int (1 : Int32)) ∧ Fr n0 L ∧ Keep h0 h [a1] ∧ Arv Z h a1 kc .char (6 : Int32) [(.int (own_pl ((t.toUInt32 >>> ((3 : Int32) &&& 31).toUInt32).toInt32))), v1, v2, v3, v4, v5] (.int (0 : Int32))) := by
  refine own_body (plainFor_of_name (by first | (simp [plainName, overriddenIn]; done) | decide +kernel)) ?_
  intro p e s m below meth c s₁ hx hby hml hown hnm hlk hrt hZ X0 e0
  refine own_enter (ef_rm_put0_0 m a1 (0 : Int32) t) ?_
  have N0 := Fr.nil n0
  have K0 := Keep.refl h0 [a1]
  refine own_iloadN X0 hx hby od_method_6_0 (pc' := 1) rfl rfl ?_
  refine own_callM X0 hx hby hml hZ hown (ow_109 hw) (ow_110 hw) (ow_107 hw) (ow_111 hw) (by decide) (cc := 0) (ss := 0) (rm_ise0 l Z a0 hw t h0 n0 (Nat.le_trans Z0 K0.1) he) 0 rfl rfl (by decide) (by decide) rfl (argsL := [(.int t)]) (rest := []) opd_16 rfl rfl (Nat.le_refl _) od_method_6_1 (pc' := 4) rfl rfl e0 (by decide) (by decide) ?_
  rintro v1 T1 h1 L1 X1 e1 ⟨rfl, Nq1, rfl⟩
  have N1 := N0.app Nq1
  refine own_ifY X1 hx hby od_method_6_4 (by decide) (pc' := 28) (by decide) (teq rfl).1 ?_
  refine own_aloadN X1 hx hby od_method_6_28 (pc' := 29) rfl rfl rfl ?_
  refine own_iloadN X1 hx hby od_method_6_29 (pc' := 30) rfl rfl ?_
  refine own_iloadN X1 hx hby od_method_6_30 (pc' := 31) rfl rfl ?_
  refine own_iconst X1 hx hby od_method_6_31 (pc' := 32) rfl (z := 3) rfl ?_
  refine own_iushr X1 hx hby od_method_6_32 (pc' := 33) rfl ?_
  refine own_callM X1 hx hby hml hZ hown (ow_115 hw) (ow_116 hw) (ow_107 hw) (ow_117 hw) (by decide) (cc := 0) (ss := 0) (rm_plain l Z a0 hw ((t.toUInt32 >>> ((3 : Int32) &&& 31).toUInt32).toInt32) h0 n0 (Nat.le_trans Z0 K0.1)) 2 rfl rfl (by decide) (by decide) rfl (argsL := [(.int ((t.toUInt32 >>> ((3 : Int32) &&& 31).toUInt32).toInt32))]) (rest := [(.int (0 : Int32)), (.ref a1)]) opd_14 rfl rfl (Nat.le_refl _) od_method_6_33 (pc' := 36) rfl rfl e1 (by decide) (by decide) ?_
  rintro v2 T2 h2 L2 X2 e2 ⟨_, rfl, rfl, Nq2, rfl⟩
  have N2 := N1.app Nq2
  refine own_stC X2 hx hby hZ e2 V1 ⟨by decide, by decide⟩ 0 rfl (Nat.le_of_ble_eq_true rfl) od_method_6_36 (pc' := 37) rfl ?_
  intro T3 h3 X3 e3 W3 V3_a1
  replace V3_a1 : Arv Z h3 a1 kc .char (6 : Int32) [(.int (nar .char (own_pl ((t.toUInt32 >>> ((3 : Int32) &&& 31).toUInt32).toInt32)))), v1, v2, v3, v4, v5] (.int (0 : Int32)) := V3_a1
  have K4 := K0.wr W3 (Or.inl (List.mem_of_getElem? (i := 0) rfl))
  have N3 := own_fr1 (sl := ((0 : Int32)).toNatClampNeg) N2 n0_a1
  rw [own_pl_n] at V3_a1
  refine own_iloadN X3 hx hby od_method_6_37 (pc' := 38) rfl rfl ?_
  refine own_iconst X3 hx hby od_method_6_38 (pc' := 39) rfl (z := 1) rfl ?_
  refine own_iadd X3 hx hby od_method_6_39 (pc' := 40) rfl ?_
  exact own_retI X3 hx hby hlk hrt od_method_6_40 (by first | exact ⟨rfl, N3, K4, V3_a1⟩ | (rw [e3]; exact ⟨rfl, N3, K4, V3_a1⟩)) (by decide) (by decide)
theorem ef_rm_put0_1 (m : MethodId) (x0 : Addr) (x1 : Int32) (x2 : Int32) : entryFrame m #[(.ref x0), (.int x1), (.int x2)] 3 = mkF m 0 #[.val (.ref x0), .val (.int x1), .val (.int x2)] [] := by first | (simp [entryFrame, mkF, argsToLocals, Value.category]; done) | rfl
set_option maxRecDepth 65536 in
set_option maxHeartbeats 40000000 in
theorem rm_put0_1 (l : Launch) (Z : State) (a0 : Array Value) (hw : ∀ d ∈ tables_1, d.before a0 Z = true) (a1 : Addr) (t : Int32) (v0 v1 v2 v3 v4 v5 : Value) (kc : ClassId) (h0 : Heap) (n0 : Nat) (Z0 : n0 ≤ h0.size) (n0_a1 : n0 ≤ a1) (V1 : Arv Z h0 a1 kc .char (6 : Int32) [v0, v1, v2, v3, v4, v5] (.int (0 : Int32))) (he : ¬ ((t &&& (7 : Int32)) < (4 : Int32))) :
    own_Met l Z (⟨"com/example/nisaba/nisaba/TsvFileUnescapePinLaw", "put", "([CII)I"⟩ : MethodName) method_6_code 3 (some .int) ({ frames := 1, cells := 0, slots := 0, locals := 15 } : Room) #[(.ref a1), (.int (1 : Int32)), (.int t)] h0 (fun v h L => v = some (.int (2 : Int32)) ∧ Fr n0 L ∧ Keep h0 h [a1] ∧ Arv Z h a1 kc .char (6 : Int32) [v0, (.int (own_pl ((t.toUInt32 >>> ((3 : Int32) &&& 31).toUInt32).toInt32))), v2, v3, v4, v5] (.int (0 : Int32))) := by
  refine own_body (plainFor_of_name (by first | (simp [plainName, overriddenIn]; done) | decide +kernel)) ?_
  intro p e s m below meth c s₁ hx hby hml hown hnm hlk hrt hZ X0 e0
  refine own_enter (ef_rm_put0_1 m a1 (1 : Int32) t) ?_
  have N0 := Fr.nil n0
  have K0 := Keep.refl h0 [a1]
  refine own_iloadN X0 hx hby od_method_6_0 (pc' := 1) rfl rfl ?_
  refine own_callM X0 hx hby hml hZ hown (ow_109 hw) (ow_110 hw) (ow_107 hw) (ow_111 hw) (by decide) (cc := 0) (ss := 0) (rm_ise0 l Z a0 hw t h0 n0 (Nat.le_trans Z0 K0.1) he) 0 rfl rfl (by decide) (by decide) rfl (argsL := [(.int t)]) (rest := []) opd_16 rfl rfl (Nat.le_refl _) od_method_6_1 (pc' := 4) rfl rfl e0 (by decide) (by decide) ?_
  rintro v1 T1 h1 L1 X1 e1 ⟨rfl, Nq1, rfl⟩
  have N1 := N0.app Nq1
  refine own_ifY X1 hx hby od_method_6_4 (by decide) (pc' := 28) (by decide) (teq rfl).1 ?_
  refine own_aloadN X1 hx hby od_method_6_28 (pc' := 29) rfl rfl rfl ?_
  refine own_iloadN X1 hx hby od_method_6_29 (pc' := 30) rfl rfl ?_
  refine own_iloadN X1 hx hby od_method_6_30 (pc' := 31) rfl rfl ?_
  refine own_iconst X1 hx hby od_method_6_31 (pc' := 32) rfl (z := 3) rfl ?_
  refine own_iushr X1 hx hby od_method_6_32 (pc' := 33) rfl ?_
  refine own_callM X1 hx hby hml hZ hown (ow_115 hw) (ow_116 hw) (ow_107 hw) (ow_117 hw) (by decide) (cc := 0) (ss := 0) (rm_plain l Z a0 hw ((t.toUInt32 >>> ((3 : Int32) &&& 31).toUInt32).toInt32) h0 n0 (Nat.le_trans Z0 K0.1)) 2 rfl rfl (by decide) (by decide) rfl (argsL := [(.int ((t.toUInt32 >>> ((3 : Int32) &&& 31).toUInt32).toInt32))]) (rest := [(.int (1 : Int32)), (.ref a1)]) opd_14 rfl rfl (Nat.le_refl _) od_method_6_33 (pc' := 36) rfl rfl e1 (by decide) (by decide) ?_
  rintro v2 T2 h2 L2 X2 e2 ⟨_, rfl, rfl, Nq2, rfl⟩
  have N2 := N1.app Nq2
  refine own_stC X2 hx hby hZ e2 V1 ⟨by decide, by decide⟩ 1 rfl (Nat.le_of_ble_eq_true rfl) od_method_6_36 (pc' := 37) rfl ?_
  intro T3 h3 X3 e3 W3 V3_a1
  replace V3_a1 : Arv Z h3 a1 kc .char (6 : Int32) [v0, (.int (nar .char (own_pl ((t.toUInt32 >>> ((3 : Int32) &&& 31).toUInt32).toInt32)))), v2, v3, v4, v5] (.int (0 : Int32)) := V3_a1
  have K4 := K0.wr W3 (Or.inl (List.mem_of_getElem? (i := 0) rfl))
  have N3 := own_fr1 (sl := ((1 : Int32)).toNatClampNeg) N2 n0_a1
  rw [own_pl_n] at V3_a1
  refine own_iloadN X3 hx hby od_method_6_37 (pc' := 38) rfl rfl ?_
  refine own_iconst X3 hx hby od_method_6_38 (pc' := 39) rfl (z := 1) rfl ?_
  refine own_iadd X3 hx hby od_method_6_39 (pc' := 40) rfl ?_
  exact own_retI X3 hx hby hlk hrt od_method_6_40 (by first | exact ⟨rfl, N3, K4, V3_a1⟩ | (rw [e3]; exact ⟨rfl, N3, K4, V3_a1⟩)) (by decide) (by decide)
theorem ef_rm_put0_2 (m : MethodId) (x0 : Addr) (x1 : Int32) (x2 : Int32) : entryFrame m #[(.ref x0), (.int x1), (.int x2)] 3 = mkF m 0 #[.val (.ref x0), .val (.int x1), .val (.int x2)] [] := by first | (simp [entryFrame, mkF, argsToLocals, Value.category]; done) | rfl
set_option maxRecDepth 65536 in
set_option maxHeartbeats 40000000 in
theorem rm_put0_2 (l : Launch) (Z : State) (a0 : Array Value) (hw : ∀ d ∈ tables_1, d.before a0 Z = true) (a1 : Addr) (t : Int32) (v0 v1 v2 v3 v4 v5 : Value) (kc : ClassId) (h0 : Heap) (n0 : Nat) (Z0 : n0 ≤ h0.size) (n0_a1 : n0 ≤ a1) (V1 : Arv Z h0 a1 kc .char (6 : Int32) [v0, v1, v2, v3, v4, v5] (.int (0 : Int32))) (he : ¬ ((t &&& (7 : Int32)) < (4 : Int32))) :
    own_Met l Z (⟨"com/example/nisaba/nisaba/TsvFileUnescapePinLaw", "put", "([CII)I"⟩ : MethodName) method_6_code 3 (some .int) ({ frames := 1, cells := 0, slots := 0, locals := 15 } : Room) #[(.ref a1), (.int (2 : Int32)), (.int t)] h0 (fun v h L => v = some (.int (3 : Int32)) ∧ Fr n0 L ∧ Keep h0 h [a1] ∧ Arv Z h a1 kc .char (6 : Int32) [v0, v1, (.int (own_pl ((t.toUInt32 >>> ((3 : Int32) &&& 31).toUInt32).toInt32))), v3, v4, v5] (.int (0 : Int32))) := by
  refine own_body (plainFor_of_name (by first | (simp [plainName, overriddenIn]; done) | decide +kernel)) ?_
  intro p e s m below meth c s₁ hx hby hml hown hnm hlk hrt hZ X0 e0
  refine own_enter (ef_rm_put0_2 m a1 (2 : Int32) t) ?_
  have N0 := Fr.nil n0
  have K0 := Keep.refl h0 [a1]
  refine own_iloadN X0 hx hby od_method_6_0 (pc' := 1) rfl rfl ?_
  refine own_callM X0 hx hby hml hZ hown (ow_109 hw) (ow_110 hw) (ow_107 hw) (ow_111 hw) (by decide) (cc := 0) (ss := 0) (rm_ise0 l Z a0 hw t h0 n0 (Nat.le_trans Z0 K0.1) he) 0 rfl rfl (by decide) (by decide) rfl (argsL := [(.int t)]) (rest := []) opd_16 rfl rfl (Nat.le_refl _) od_method_6_1 (pc' := 4) rfl rfl e0 (by decide) (by decide) ?_
  rintro v1 T1 h1 L1 X1 e1 ⟨rfl, Nq1, rfl⟩
  have N1 := N0.app Nq1
  refine own_ifY X1 hx hby od_method_6_4 (by decide) (pc' := 28) (by decide) (teq rfl).1 ?_
  refine own_aloadN X1 hx hby od_method_6_28 (pc' := 29) rfl rfl rfl ?_
  refine own_iloadN X1 hx hby od_method_6_29 (pc' := 30) rfl rfl ?_
  refine own_iloadN X1 hx hby od_method_6_30 (pc' := 31) rfl rfl ?_
  refine own_iconst X1 hx hby od_method_6_31 (pc' := 32) rfl (z := 3) rfl ?_
  refine own_iushr X1 hx hby od_method_6_32 (pc' := 33) rfl ?_
  refine own_callM X1 hx hby hml hZ hown (ow_115 hw) (ow_116 hw) (ow_107 hw) (ow_117 hw) (by decide) (cc := 0) (ss := 0) (rm_plain l Z a0 hw ((t.toUInt32 >>> ((3 : Int32) &&& 31).toUInt32).toInt32) h0 n0 (Nat.le_trans Z0 K0.1)) 2 rfl rfl (by decide) (by decide) rfl (argsL := [(.int ((t.toUInt32 >>> ((3 : Int32) &&& 31).toUInt32).toInt32))]) (rest := [(.int (2 : Int32)), (.ref a1)]) opd_14 rfl rfl (Nat.le_refl _) od_method_6_33 (pc' := 36) rfl rfl e1 (by decide) (by decide) ?_
  rintro v2 T2 h2 L2 X2 e2 ⟨_, rfl, rfl, Nq2, rfl⟩
  have N2 := N1.app Nq2
  refine own_stC X2 hx hby hZ e2 V1 ⟨by decide, by decide⟩ 2 rfl (Nat.le_of_ble_eq_true rfl) od_method_6_36 (pc' := 37) rfl ?_
  intro T3 h3 X3 e3 W3 V3_a1
  replace V3_a1 : Arv Z h3 a1 kc .char (6 : Int32) [v0, v1, (.int (nar .char (own_pl ((t.toUInt32 >>> ((3 : Int32) &&& 31).toUInt32).toInt32)))), v3, v4, v5] (.int (0 : Int32)) := V3_a1
  have K4 := K0.wr W3 (Or.inl (List.mem_of_getElem? (i := 0) rfl))
  have N3 := own_fr1 (sl := ((2 : Int32)).toNatClampNeg) N2 n0_a1
  rw [own_pl_n] at V3_a1
  refine own_iloadN X3 hx hby od_method_6_37 (pc' := 38) rfl rfl ?_
  refine own_iconst X3 hx hby od_method_6_38 (pc' := 39) rfl (z := 1) rfl ?_
  refine own_iadd X3 hx hby od_method_6_39 (pc' := 40) rfl ?_
  exact own_retI X3 hx hby hlk hrt od_method_6_40 (by first | exact ⟨rfl, N3, K4, V3_a1⟩ | (rw [e3]; exact ⟨rfl, N3, K4, V3_a1⟩)) (by decide) (by decide)
theorem ef_rm_put0_3 (m : MethodId) (x0 : Addr) (x1 : Int32) (x2 : Int32) : entryFrame m #[(.ref x0), (.int x1), (.int x2)] 3 = mkF m 0 #[.val (.ref x0), .val (.int x1), .val (.int x2)] [] := by first | (simp [entryFrame, mkF, argsToLocals, Value.category]; done) | rfl
set_option maxRecDepth 65536 in
set_option maxHeartbeats 40000000 in
theorem rm_put0_3 (l : Launch) (Z : State) (a0 : Array Value) (hw : ∀ d ∈ tables_1, d.before a0 Z = true) (a1 : Addr) (t : Int32) (v0 v1 v2 v3 v4 v5 : Value) (kc : ClassId) (h0 : Heap) (n0 : Nat) (Z0 : n0 ≤ h0.size) (n0_a1 : n0 ≤ a1) (V1 : Arv Z h0 a1 kc .char (6 : Int32) [v0, v1, v2, v3, v4, v5] (.int (0 : Int32))) (he : ¬ ((t &&& (7 : Int32)) < (4 : Int32))) :
    own_Met l Z (⟨"com/example/nisaba/nisaba/TsvFileUnescapePinLaw", "put", "([CII)I"⟩ : MethodName) method_6_code 3 (some .int) ({ frames := 1, cells := 0, slots := 0, locals := 15 } : Room) #[(.ref a1), (.int (3 : Int32)), (.int t)] h0 (fun v h L => v = some (.int (4 : Int32)) ∧ Fr n0 L ∧ Keep h0 h [a1] ∧ Arv Z h a1 kc .char (6 : Int32) [v0, v1, v2, (.int (own_pl ((t.toUInt32 >>> ((3 : Int32) &&& 31).toUInt32).toInt32))), v4, v5] (.int (0 : Int32))) := by
  refine own_body (plainFor_of_name (by first | (simp [plainName, overriddenIn]; done) | decide +kernel)) ?_
  intro p e s m below meth c s₁ hx hby hml hown hnm hlk hrt hZ X0 e0
  refine own_enter (ef_rm_put0_3 m a1 (3 : Int32) t) ?_
  have N0 := Fr.nil n0
  have K0 := Keep.refl h0 [a1]
  refine own_iloadN X0 hx hby od_method_6_0 (pc' := 1) rfl rfl ?_
  refine own_callM X0 hx hby hml hZ hown (ow_109 hw) (ow_110 hw) (ow_107 hw) (ow_111 hw) (by decide) (cc := 0) (ss := 0) (rm_ise0 l Z a0 hw t h0 n0 (Nat.le_trans Z0 K0.1) he) 0 rfl rfl (by decide) (by decide) rfl (argsL := [(.int t)]) (rest := []) opd_16 rfl rfl (Nat.le_refl _) od_method_6_1 (pc' := 4) rfl rfl e0 (by decide) (by decide) ?_
  rintro v1 T1 h1 L1 X1 e1 ⟨rfl, Nq1, rfl⟩
  have N1 := N0.app Nq1
  refine own_ifY X1 hx hby od_method_6_4 (by decide) (pc' := 28) (by decide) (teq rfl).1 ?_
  refine own_aloadN X1 hx hby od_method_6_28 (pc' := 29) rfl rfl rfl ?_
  refine own_iloadN X1 hx hby od_method_6_29 (pc' := 30) rfl rfl ?_
  refine own_iloadN X1 hx hby od_method_6_30 (pc' := 31) rfl rfl ?_
  refine own_iconst X1 hx hby od_method_6_31 (pc' := 32) rfl (z := 3) rfl ?_
  refine own_iushr X1 hx hby od_method_6_32 (pc' := 33) rfl ?_
  refine own_callM X1 hx hby hml hZ hown (ow_115 hw) (ow_116 hw) (ow_107 hw) (ow_117 hw) (by decide) (cc := 0) (ss := 0) (rm_plain l Z a0 hw ((t.toUInt32 >>> ((3 : Int32) &&& 31).toUInt32).toInt32) h0 n0 (Nat.le_trans Z0 K0.1)) 2 rfl rfl (by decide) (by decide) rfl (argsL := [(.int ((t.toUInt32 >>> ((3 : Int32) &&& 31).toUInt32).toInt32))]) (rest := [(.int (3 : Int32)), (.ref a1)]) opd_14 rfl rfl (Nat.le_refl _) od_method_6_33 (pc' := 36) rfl rfl e1 (by decide) (by decide) ?_
  rintro v2 T2 h2 L2 X2 e2 ⟨_, rfl, rfl, Nq2, rfl⟩
  have N2 := N1.app Nq2
  refine own_stC X2 hx hby hZ e2 V1 ⟨by decide, by decide⟩ 3 rfl (Nat.le_of_ble_eq_true rfl) od_method_6_36 (pc' := 37) rfl ?_
  intro T3 h3 X3 e3 W3 V3_a1
  replace V3_a1 : Arv Z h3 a1 kc .char (6 : Int32) [v0, v1, v2, (.int (nar .char (own_pl ((t.toUInt32 >>> ((3 : Int32) &&& 31).toUInt32).toInt32)))), v4, v5] (.int (0 : Int32)) := V3_a1
  have K4 := K0.wr W3 (Or.inl (List.mem_of_getElem? (i := 0) rfl))
  have N3 := own_fr1 (sl := ((3 : Int32)).toNatClampNeg) N2 n0_a1
  rw [own_pl_n] at V3_a1
  refine own_iloadN X3 hx hby od_method_6_37 (pc' := 38) rfl rfl ?_
  refine own_iconst X3 hx hby od_method_6_38 (pc' := 39) rfl (z := 1) rfl ?_
  refine own_iadd X3 hx hby od_method_6_39 (pc' := 40) rfl ?_
  exact own_retI X3 hx hby hlk hrt od_method_6_40 (by first | exact ⟨rfl, N3, K4, V3_a1⟩ | (rw [e3]; exact ⟨rfl, N3, K4, V3_a1⟩)) (by decide) (by decide)
theorem ef_rm_put0_4 (m : MethodId) (x0 : Addr) (x1 : Int32) (x2 : Int32) : entryFrame m #[(.ref x0), (.int x1), (.int x2)] 3 = mkF m 0 #[.val (.ref x0), .val (.int x1), .val (.int x2)] [] := by first | (simp [entryFrame, mkF, argsToLocals, Value.category]; done) | rfl
set_option maxRecDepth 65536 in
set_option maxHeartbeats 40000000 in
theorem rm_put0_4 (l : Launch) (Z : State) (a0 : Array Value) (hw : ∀ d ∈ tables_1, d.before a0 Z = true) (a1 : Addr) (t : Int32) (v0 v1 v2 v3 v4 v5 : Value) (kc : ClassId) (h0 : Heap) (n0 : Nat) (Z0 : n0 ≤ h0.size) (n0_a1 : n0 ≤ a1) (V1 : Arv Z h0 a1 kc .char (6 : Int32) [v0, v1, v2, v3, v4, v5] (.int (0 : Int32))) (he : ¬ ((t &&& (7 : Int32)) < (4 : Int32))) :
    own_Met l Z (⟨"com/example/nisaba/nisaba/TsvFileUnescapePinLaw", "put", "([CII)I"⟩ : MethodName) method_6_code 3 (some .int) ({ frames := 1, cells := 0, slots := 0, locals := 15 } : Room) #[(.ref a1), (.int (4 : Int32)), (.int t)] h0 (fun v h L => v = some (.int (5 : Int32)) ∧ Fr n0 L ∧ Keep h0 h [a1] ∧ Arv Z h a1 kc .char (6 : Int32) [v0, v1, v2, v3, (.int (own_pl ((t.toUInt32 >>> ((3 : Int32) &&& 31).toUInt32).toInt32))), v5] (.int (0 : Int32))) := by
  refine own_body (plainFor_of_name (by first | (simp [plainName, overriddenIn]; done) | decide +kernel)) ?_
  intro p e s m below meth c s₁ hx hby hml hown hnm hlk hrt hZ X0 e0
  refine own_enter (ef_rm_put0_4 m a1 (4 : Int32) t) ?_
  have N0 := Fr.nil n0
  have K0 := Keep.refl h0 [a1]
  refine own_iloadN X0 hx hby od_method_6_0 (pc' := 1) rfl rfl ?_
  refine own_callM X0 hx hby hml hZ hown (ow_109 hw) (ow_110 hw) (ow_107 hw) (ow_111 hw) (by decide) (cc := 0) (ss := 0) (rm_ise0 l Z a0 hw t h0 n0 (Nat.le_trans Z0 K0.1) he) 0 rfl rfl (by decide) (by decide) rfl (argsL := [(.int t)]) (rest := []) opd_16 rfl rfl (Nat.le_refl _) od_method_6_1 (pc' := 4) rfl rfl e0 (by decide) (by decide) ?_
  rintro v1 T1 h1 L1 X1 e1 ⟨rfl, Nq1, rfl⟩
  have N1 := N0.app Nq1
  refine own_ifY X1 hx hby od_method_6_4 (by decide) (pc' := 28) (by decide) (teq rfl).1 ?_
  refine own_aloadN X1 hx hby od_method_6_28 (pc' := 29) rfl rfl rfl ?_
  refine own_iloadN X1 hx hby od_method_6_29 (pc' := 30) rfl rfl ?_
  refine own_iloadN X1 hx hby od_method_6_30 (pc' := 31) rfl rfl ?_
  refine own_iconst X1 hx hby od_method_6_31 (pc' := 32) rfl (z := 3) rfl ?_
  refine own_iushr X1 hx hby od_method_6_32 (pc' := 33) rfl ?_
  refine own_callM X1 hx hby hml hZ hown (ow_115 hw) (ow_116 hw) (ow_107 hw) (ow_117 hw) (by decide) (cc := 0) (ss := 0) (rm_plain l Z a0 hw ((t.toUInt32 >>> ((3 : Int32) &&& 31).toUInt32).toInt32) h0 n0 (Nat.le_trans Z0 K0.1)) 2 rfl rfl (by decide) (by decide) rfl (argsL := [(.int ((t.toUInt32 >>> ((3 : Int32) &&& 31).toUInt32).toInt32))]) (rest := [(.int (4 : Int32)), (.ref a1)]) opd_14 rfl rfl (Nat.le_refl _) od_method_6_33 (pc' := 36) rfl rfl e1 (by decide) (by decide) ?_
  rintro v2 T2 h2 L2 X2 e2 ⟨_, rfl, rfl, Nq2, rfl⟩
  have N2 := N1.app Nq2
  refine own_stC X2 hx hby hZ e2 V1 ⟨by decide, by decide⟩ 4 rfl (Nat.le_of_ble_eq_true rfl) od_method_6_36 (pc' := 37) rfl ?_
  intro T3 h3 X3 e3 W3 V3_a1
  replace V3_a1 : Arv Z h3 a1 kc .char (6 : Int32) [v0, v1, v2, v3, (.int (nar .char (own_pl ((t.toUInt32 >>> ((3 : Int32) &&& 31).toUInt32).toInt32)))), v5] (.int (0 : Int32)) := V3_a1
  have K4 := K0.wr W3 (Or.inl (List.mem_of_getElem? (i := 0) rfl))
  have N3 := own_fr1 (sl := ((4 : Int32)).toNatClampNeg) N2 n0_a1
  rw [own_pl_n] at V3_a1
  refine own_iloadN X3 hx hby od_method_6_37 (pc' := 38) rfl rfl ?_
  refine own_iconst X3 hx hby od_method_6_38 (pc' := 39) rfl (z := 1) rfl ?_
  refine own_iadd X3 hx hby od_method_6_39 (pc' := 40) rfl ?_
  exact own_retI X3 hx hby hlk hrt od_method_6_40 (by first | exact ⟨rfl, N3, K4, V3_a1⟩ | (rw [e3]; exact ⟨rfl, N3, K4, V3_a1⟩)) (by decide) (by decide)
theorem ef_rm_out1 (m : MethodId) (x0 : Int32) : entryFrame m #[(.int x0)] 1 = mkF m 0 #[.val (.int x0)] [] := by first | (simp [entryFrame, mkF, argsToLocals, Value.category]; done) | rfl
set_option maxRecDepth 65536 in
set_option maxHeartbeats 40000000 in
theorem rm_out1 (l : Launch) (Z : State) (a0 : Array Value) (hw : ∀ d ∈ tables_1, d.before a0 Z = true) (t : Int32) (h0 : Heap) (n0 : Nat) (Z0 : n0 ≤ h0.size) (he : (t &&& (7 : Int32)) < (4 : Int32)) :
    own_Met l Z (⟨"com/example/nisaba/nisaba/TsvFileUnescapePinLaw", "out", "(I)C"⟩ : MethodName) method_7_code 1 (some .char) ({ frames := 1, cells := 0, slots := 0, locals := 12 } : Room) #[(.int t)] h0 (fun v h L => v = some (.int (own_me (t &&& (7 : Int32)))) ∧ Fr n0 L ∧ h0 = h) := by
  refine own_body (plainFor_of_name (by first | (simp [plainName, overriddenIn]; done) | decide +kernel)) ?_
  intro p e s m below meth c s₁ hx hby hml hown hnm hlk hrt hZ X0 e0
  refine own_enter (ef_rm_out1 m t) ?_
  have N0 := Fr.nil n0
  refine own_iloadN X0 hx hby od_method_7_0 (pc' := 1) rfl rfl ?_
  refine own_callM X0 hx hby hml hZ hown (ow_109 hw) (ow_110 hw) (ow_107 hw) (ow_111 hw) (by decide) (cc := 0) (ss := 0) (rm_ise1 l Z a0 hw t h0 n0 Z0 he) 0 rfl rfl (by decide) (by decide) rfl (argsL := [(.int t)]) (rest := []) opd_16 rfl rfl (Nat.le_refl _) od_method_7_1 (pc' := 4) rfl rfl e0 (by decide) (by decide) ?_
  rintro v1 T1 h1 L1 X1 e1 ⟨rfl, Nq1, rfl⟩
  have N1 := N0.app Nq1
  refine own_ifN X1 hx hby od_method_7_4 (pc' := 7) rfl (feq (by decide)).1 ?_
  refine own_iloadN X1 hx hby od_method_7_7 (pc' := 8) rfl rfl ?_
  refine own_bipush X1 hx hby od_method_7_8 (pc' := 10) rfl (z := 7) rfl ?_
  refine own_iand X1 hx hby od_method_7_10 (pc' := 11) rfl ?_
  refine own_callM X1 hx hby hml hZ hown (ow_193 hw) (ow_194 hw) (ow_107 hw) (ow_195 hw) (by decide) (cc := 0) (ss := 0) (rm_meaning l Z a0 hw (t &&& (7 : Int32)) h0 n0 Z0) 0 rfl rfl (by decide) (by decide) rfl (argsL := [(.int (t &&& (7 : Int32)))]) (rest := []) opd_14 rfl rfl (Nat.le_refl _) od_method_7_11 (pc' := 14) rfl rfl e1 (by decide) (by decide) ?_
  rintro v2 T2 h2 L2 X2 e2 ⟨_, rfl, rfl, Nq2, rfl⟩
  have N2 := N1.app Nq2
  exact own_retN X2 hx hby hlk hrt (by simp) od_method_7_14 (z' := (own_me (t &&& (7 : Int32)))) (own_me_n _) (by first | exact ⟨rfl, N2, rfl⟩ | (rw [e2]; exact ⟨rfl, N2, rfl⟩)) (by decide) (by decide)
theorem ef_rm_out0 (m : MethodId) (x0 : Int32) : entryFrame m #[(.int x0)] 1 = mkF m 0 #[.val (.int x0)] [] := by first | (simp [entryFrame, mkF, argsToLocals, Value.category]; done) | rfl
set_option maxRecDepth 65536 in
set_option maxHeartbeats 40000000 in
theorem rm_out0 (l : Launch) (Z : State) (a0 : Array Value) (hw : ∀ d ∈ tables_1, d.before a0 Z = true) (t : Int32) (h0 : Heap) (n0 : Nat) (Z0 : n0 ≤ h0.size) (he : ¬ ((t &&& (7 : Int32)) < (4 : Int32))) :
    own_Met l Z (⟨"com/example/nisaba/nisaba/TsvFileUnescapePinLaw", "out", "(I)C"⟩ : MethodName) method_7_code 1 (some .char) ({ frames := 1, cells := 0, slots := 0, locals := 13 } : Room) #[(.int t)] h0 (fun v h L => v = some (.int (own_pl ((t.toUInt32 >>> ((3 : Int32) &&& 31).toUInt32).toInt32))) ∧ Fr n0 L ∧ h0 = h) := by
  refine own_body (plainFor_of_name (by first | (simp [plainName, overriddenIn]; done) | decide +kernel)) ?_
  intro p e s m below meth c s₁ hx hby hml hown hnm hlk hrt hZ X0 e0
  refine own_enter (ef_rm_out0 m t) ?_
  have N0 := Fr.nil n0
  refine own_iloadN X0 hx hby od_method_7_0 (pc' := 1) rfl rfl ?_
  refine own_callM X0 hx hby hml hZ hown (ow_109 hw) (ow_110 hw) (ow_107 hw) (ow_111 hw) (by decide) (cc := 0) (ss := 0) (rm_ise0 l Z a0 hw t h0 n0 Z0 he) 0 rfl rfl (by decide) (by decide) rfl (argsL := [(.int t)]) (rest := []) opd_16 rfl rfl (Nat.le_refl _) od_method_7_1 (pc' := 4) rfl rfl e0 (by decide) (by decide) ?_
  rintro v1 T1 h1 L1 X1 e1 ⟨rfl, Nq1, rfl⟩
  have N1 := N0.app Nq1
  refine own_ifY X1 hx hby od_method_7_4 (by decide) (pc' := 15) (by decide) (teq rfl).1 ?_
  refine own_iloadN X1 hx hby od_method_7_15 (pc' := 16) rfl rfl ?_
  refine own_iconst X1 hx hby od_method_7_16 (pc' := 17) rfl (z := 3) rfl ?_
  refine own_iushr X1 hx hby od_method_7_17 (pc' := 18) rfl ?_
  refine own_callM X1 hx hby hml hZ hown (ow_115 hw) (ow_116 hw) (ow_107 hw) (ow_117 hw) (by decide) (cc := 0) (ss := 0) (rm_plain l Z a0 hw ((t.toUInt32 >>> ((3 : Int32) &&& 31).toUInt32).toInt32) h0 n0 Z0) 0 rfl rfl (by decide) (by decide) rfl (argsL := [(.int ((t.toUInt32 >>> ((3 : Int32) &&& 31).toUInt32).toInt32))]) (rest := []) opd_14 rfl rfl (Nat.le_refl _) od_method_7_18 (pc' := 21) rfl rfl e1 (by decide) (by decide) ?_
  rintro v2 T2 h2 L2 X2 e2 ⟨_, rfl, rfl, Nq2, rfl⟩
  have N2 := N1.app Nq2
  exact own_retN X2 hx hby hlk hrt (by simp) od_method_7_21 (z' := (own_pl ((t.toUInt32 >>> ((3 : Int32) &&& 31).toUInt32).toInt32))) (own_pl_n _) (by first | exact ⟨rfl, N2, rfl⟩ | (rw [e2]; exact ⟨rfl, N2, rfl⟩)) (by decide) (by decide)
theorem ef_rm_law (m : MethodId) (x0 : Int32) (x1 : Int32) (x2 : Int32) (x3 : Int64) (x4 : Int32) : entryFrame m #[(.int x0), (.int x1), (.int x2), (.long x3), (.int x4)] maxLocals = mkF m 0 #[.val (.int x0), .val (.int x1), .val (.int x2), .val (.long x3), .second, .val (.int x4), .unset, .unset, .unset, .unset, .unset, .unset, .unset, .unset] [] := by first | (simp [entryFrame, mkF, argsToLocals, Value.category, maxLocals]; done) | rfl
set_option maxRecDepth 65536 in
set_option maxHeartbeats 40000000 in
theorem rm_law (l : Launch) (Z : State) (a0 : Array Value) (hw : ∀ d ∈ tables_1, d.before a0 Z = true) (p1 p2 p3 : Int32) (pf : Int64) (p4 : Int32) (G1 : Int32) (fm : Value) (h0 : Heap) (n0 : Nat) (Z0 : n0 ≤ h0.size) (S_cs : Sta Z h0 "java/lang/String" "COMPACT_STRINGS" "Z" (.int G1)) (P5 : ¬ (G1 = (0 : Int32))) (S_f : Sta Z h0 "jdk/internal/util/Preconditions" "SIOOBE_FORMATTER" "Ljava/util/function/BiFunction;" fm) (rf : fm.isRef = true) :
    own_MetW l Z own_EL x code maxLocals ret room_1 #[(.int p1), (.int p2), (.int p3), (.long pf), (.int p4)] h0 (fun v h L => v = some (.int 1) ∧ Fr n0 L) := by
  refine own_bodyW (plainFor_of_name (by first | (simp [plainName, overriddenIn]; done) | decide +kernel)) ?_
  intro p e s m below meth c s₁ vm0 hx hby hml hown hnm hlk hrt hZ hZ0 SN CH X0 e0
  have hml : c.maxLocals = 14 := hml
  refine own_enter (ef_rm_law m p1 p2 p3 pf p4) ?_
  have N0 := Fr.nil n0
  refine own_iload X0 hx hby at_0 (pc' := 2) rfl rfl ?_
  refine own_iconst X0 hx hby at_2 (pc' := 3) rfl (z := 3) rfl ?_
  refine own_iand X0 hx hby at_3 (pc' := 4) rfl ?_
  generalize hq_q : (p4 &&& (3 : Int32)) = q
  refine own_istore X0 hx hby at_4 (pc' := 6) rfl (Ls' := #[.val (.int p1), .val (.int p2), .val (.int p3), .val (.long pf), .second, .val (.int p4), .val (.int q), .unset, .unset, .unset, .unset, .unset, .unset, .unset]) rfl ?_
  refine own_iload X0 hx hby at_6 (pc' := 8) rfl rfl ?_
  by_cases hq0 : q = (0 : Int32)
  · refine own_ifN X0 hx hby at_8 (pc' := 11) rfl (teq hq0).2 ?_
    refine own_ldcC X0 hx hby hZ hown SN CH (own_ew hw) (own_ws hw) (ow_0 hw) e0 at_11 (pc' := 13) rfl (n := 0) (by decide) (by decide) (by decide) (by decide) (by decide) [] ⟨by decide, by decide⟩ (by decide) (by decide) (by decide) ?_
    intro T1 vm1 h1 q1 X1 e1 hZ hown SN1 CH1 E1 S_q1
    have A_q1 := S_q1.exa
    replace S_cs := S_cs.ext E1
    replace S_f := S_f.ext E1
    refine own_ldcO X1 hx hby hZ hown SN1 CH1 (own_ew hw) (own_ws hw) (ow_8 hw) e1 at_13 (pc' := 15) rfl (n := 40) (by decide) (by decide) (by decide) (by decide) ?_
    intro T2 vm2 h2 q2 X2 e2 hZ hown SN2 CH2 E2
    have Ea3 := own_xt E1 E2
    replace S_cs := S_cs.ext E2
    replace S_f := S_f.ext E2
    replace S_q1 := S_q1.ext E2
    replace A_q1 := A_q1.ext E2
    refine own_callM X2 hx hby hml hZ hown (ow_9 hw) (ow_10 hw) (ow_11 hw) (ow_12 hw) (by decide) (cc := 4) (ss := 20) (rm_une l Z a0 hw q1 q2 [] [] [] G1 fm h2 n0 (Nat.le_trans Z0 Ea3.1) S_cs P5 S_f rf S_q1 (Nat.le_of_ble_eq_true rfl) (fun t ht => by cases ht) rfl rfl) 0 rfl rfl (by decide) (by decide) rfl (argsL := [(.ref q1), (.ref q2)]) (rest := []) opd_17 rfl rfl (Nat.le_refl _) at_15 (pc' := 18) rfl rfl e2 (by decide) (by decide) ?_
    rintro v4 T4 h4 L4 X4 e4 ⟨r, rfl, Eq4, Nq4, S_r⟩
    have N4 := N0.app Nq4
    have Ea5 := own_xt Ea3 Eq4
    replace S_cs := S_cs.ext Eq4
    replace S_f := S_f.ext Eq4
    replace S_q1 := S_q1.ext Eq4
    replace A_q1 := A_q1.ext Eq4
    replace SN2 := SN2.ext Eq4
    replace CH2 := CH2.ext Eq4
    have A_r := S_r.exa
    have O_r : own_Nm Z h4 r [] := ⟨S_r, Nat.zero_le _⟩
    refine own_ldcC X4 hx hby hZ hown SN2 CH2 (own_ew hw) (own_ws hw) (ow_0 hw) e4 at_18 (pc' := 20) rfl (n := 0) (by decide) (by decide) (by decide) (by decide) (by decide) [] ⟨by decide, by decide⟩ (by decide) (by decide) (by decide) ?_
    intro T6 vm6 h6 q6 X6 e6 hZ hown SN6 CH6 E6 S_q6
    have Ea7 := own_xt Ea5 E6
    have A_q6 := S_q6.exa
    replace S_cs := S_cs.ext E6
    replace S_f := S_f.ext E6
    replace S_q1 := S_q1.ext E6
    replace A_q1 := A_q1.ext E6
    replace A_r := A_r.ext E6
    replace S_r := S_r.ext E6
    replace O_r := O_r.ext E6
    refine own_virt X6 hx hby hml hZ hown (ow_94 hw) (ow_95 hw) (notFace_of_selects (args := #[]) (mvT hZ (ow_97 hw))) (ow_97 hw) (ow_96 hw) (by decide) (cc := 0) (ss := 0) (own_eqB (W := 0) hZ hw O_r.1 (Nat.le_trans O_r.2 (by decide)) S_q6 (Nat.le_of_ble_eq_true rfl) S_cs P5 (by decide) (by decide)) rfl A_r (argsL := [(.ref q6)]) (rest := []) opd_18 rfl rfl (Nat.le_refl _) at_20 (pc' := 23) rfl rfl e6 (by decide) (by decide) ?_
    rintro v8 T8 h8 L8 X8 e8 ⟨hv8, hl8, hh8⟩
    subst hl8
    obtain rfl := hh8.symm
    have N8 := N4.app (Fr.nil n0)
    rcases hv8 with ⟨rfl, hq8⟩ | ⟨rfl, hq8⟩
    · exact own_retNW X8 hx hby hZ (own_ew hw) e8 SN6 CH6 hlk hrt (by simp) at_23 (z' := (1 : Int32)) rfl ⟨rfl, N8⟩ (by decide) (by decide)
    · exact absurd rfl hq8
  · refine own_ifY X0 hx hby at_8 (by decide) (pc' := 24) (by decide) (feq hq0).2 ?_
    refine own_iload X0 hx hby at_24 (pc' := 26) rfl rfl ?_
    refine own_iconst X0 hx hby at_26 (pc' := 27) rfl (z := 1) rfl ?_
    by_cases hq1 : q = (1 : Int32)
    · refine own_icmpN X0 hx hby at_27 (pc' := 30) rfl (teq hq1).2 ?_
      refine own_iloadN X0 hx hby at_30 (pc' := 31) rfl rfl ?_
      refine own_iconst X0 hx hby at_31 (pc' := 32) rfl (z := 3) rfl ?_
      refine own_iushr X0 hx hby at_32 (pc' := 33) rfl ?_
      refine own_callM X0 hx hby hml hZ hown (ow_115 hw) (ow_116 hw) (ow_107 hw) (ow_117 hw) (by decide) (cc := 0) (ss := 0) (rm_plain l Z a0 hw ((p1.toUInt32 >>> ((3 : Int32) &&& 31).toUInt32).toInt32) h0 n0 Z0) 0 rfl rfl (by decide) (by decide) rfl (argsL := [(.int ((p1.toUInt32 >>> ((3 : Int32) &&& 31).toUInt32).toInt32))]) (rest := []) opd_14 rfl rfl (Nat.le_refl _) at_33 (pc' := 36) rfl rfl e0 (by decide) (by decide) ?_
      rintro v9 T9 h9 L9 X9 e9 ⟨_, rfl, rfl, Nq9, rfl⟩
      have N9 := N0.app Nq9
      refine own_callM X9 hx hby hml hZ hown (ow_196 hw) (ow_197 hw) (ow_1 hw) (ow_198 hw) (by decide) (cc := 2) (ss := 5) (rm_valueOf l Z a0 hw (own_pl ((p1.toUInt32 >>> ((3 : Int32) &&& 31).toUInt32).toInt32)) G1 h0 n0 Z0 S_cs P5 (own_pl_b ((p1.toUInt32 >>> ((3 : Int32) &&& 31).toUInt32).toInt32)).1 (own_pl_b ((p1.toUInt32 >>> ((3 : Int32) &&& 31).toUInt32).toInt32)).2) 0 rfl rfl (by decide) (by decide) rfl (argsL := [(.int (own_pl ((p1.toUInt32 >>> ((3 : Int32) &&& 31).toUInt32).toInt32)))]) (rest := []) opd_19 rfl rfl (Nat.le_refl _) at_36 (pc' := 39) rfl rfl e9 (by decide) (by decide) ?_
      rintro v10 T10 h10 L10 X10 e10 ⟨o1, rfl, _, Eq10, Nq10, S_o1⟩
      have N10 := N9.app Nq10
      replace SN := SN.ext Eq10
      replace CH := CH.ext Eq10
      replace S_cs := S_cs.ext Eq10
      replace S_f := S_f.ext Eq10
      refine own_astore X10 hx hby at_39 (pc' := 41) rfl rfl (Ls' := #[.val (.int p1), .val (.int p2), .val (.int p3), .val (.long pf), .second, .val (.int p4), .val (.int q), .val (.ref o1), .unset, .unset, .unset, .unset, .unset, .unset]) rfl ?_
      refine own_aload X10 hx hby at_41 (pc' := 43) rfl rfl rfl ?_
      refine own_ldcO X10 hx hby hZ hown SN CH (own_ew hw) (own_ws hw) (ow_8 hw) e10 at_43 (pc' := 45) rfl (n := 40) (by decide) (by decide) (by decide) (by decide) ?_
      intro T11 vm11 h11 q11 X11 e11 hZ hown SN11 CH11 E11
      have Ea12 := own_xt Eq10 E11
      replace S_cs := S_cs.ext E11
      replace S_f := S_f.ext E11
      replace S_o1 := S_o1.ext E11
      refine own_callM X11 hx hby hml hZ hown (ow_9 hw) (ow_10 hw) (ow_11 hw) (ow_12 hw) (by decide) (cc := 4) (ss := 20) (rm_une l Z a0 hw o1 q11 [(own_pl ((p1.toUInt32 >>> ((3 : Int32) &&& 31).toUInt32).toInt32))] [(own_pl ((p1.toUInt32 >>> ((3 : Int32) &&& 31).toUInt32).toInt32))] [((own_pl ((p1.toUInt32 >>> ((3 : Int32) &&& 31).toUInt32).toInt32)), none)] G1 fm h11 n0 (Nat.le_trans Z0 Ea12.1) S_cs P5 S_f rf S_o1 (Nat.le_of_ble_eq_true rfl) (by intro t ht; rw [List.mem_singleton.mp ht]; exact own_okp _) rfl rfl) 0 rfl rfl (by decide) (by decide) rfl (argsL := [(.ref o1), (.ref q11)]) (rest := []) opd_17 rfl rfl (Nat.le_refl _) at_45 (pc' := 48) rfl rfl e11 (by decide) (by decide) ?_
      rintro v13 T13 h13 L13 X13 e13 ⟨r, rfl, Eq13, Nq13, S_r⟩
      have N13 := N10.app Nq13
      have Ea14 := own_xt Ea12 Eq13
      replace S_cs := S_cs.ext Eq13
      replace S_f := S_f.ext Eq13
      replace S_o1 := S_o1.ext Eq13
      replace SN11 := SN11.ext Eq13
      replace CH11 := CH11.ext Eq13
      have A_r := S_r.exa
      have O_r : own_Nm Z h13 r [(own_pl ((p1.toUInt32 >>> ((3 : Int32) &&& 31).toUInt32).toInt32))] := ⟨S_r, Nat.le_of_ble_eq_true rfl⟩
      refine own_astore X13 hx hby at_48 (pc' := 50) rfl rfl (Ls' := #[.val (.int p1), .val (.int p2), .val (.int p3), .val (.long pf), .second, .val (.int p4), .val (.int q), .val (.ref o1), .val (.ref r), .unset, .unset, .unset, .unset, .unset]) rfl ?_
      refine own_aload X13 hx hby at_50 (pc' := 52) rfl rfl rfl ?_
      refine own_aload X13 hx hby at_52 (pc' := 54) rfl rfl rfl ?_
      refine own_virt X13 hx hby hml hZ hown (ow_94 hw) (ow_95 hw) (notFace_of_selects (args := #[]) (mvT hZ (ow_97 hw))) (ow_97 hw) (ow_96 hw) (by decide) (cc := 0) (ss := 0) (own_eqB (W := 0) hZ hw O_r.1 (Nat.le_trans O_r.2 (by decide)) S_o1 (Nat.le_of_ble_eq_true rfl) S_cs P5 (by decide) (by decide)) rfl A_r (argsL := [(.ref o1)]) (rest := []) opd_18 rfl rfl (Nat.le_refl _) at_54 (pc' := 57) rfl rfl e13 (by decide) (by decide) ?_
      rintro v15 T15 h15 L15 X15 e15 ⟨hv15, hl15, hh15⟩
      subst hl15
      obtain rfl := hh15.symm
      have N15 := N13.app (Fr.nil n0)
      rcases hv15 with ⟨rfl, hq15⟩ | ⟨rfl, hq15⟩
      · exact own_retNW X15 hx hby hZ (own_ew hw) e15 SN11 CH11 hlk hrt (by simp) at_57 (z' := (1 : Int32)) rfl ⟨rfl, N15⟩ (by decide) (by decide)
      · exact absurd rfl hq15
    · refine own_icmpY X0 hx hby at_27 (by decide) (pc' := 58) (by decide) (feq hq1).2 ?_
      refine own_bipush X0 hx hby at_58 (pc' := 60) rfl (z := 6) rfl ?_
      by_cases h0_ : (p1 &&& (7 : Int32)) < (4 : Int32)
      · by_cases h1_ : (p2 &&& (7 : Int32)) < (4 : Int32)
        · by_cases h2_ : (p3 &&& (7 : Int32)) < (4 : Int32)
          · refine own_newP (aty := .char) X0 hx hby hZ (ow_104 hw) e0 at_60 (pc' := 62) rfl (by decide) (cap := 6) (by decide) (by decide) (by decide) (by decide) ?_
            intro T16 h16 b16 kA16 g16 X16 e16 E16 V_b16
            have le17 : h0.size ≤ b16 := Nat.le_of_eq g16.symm
            have n0_b16 : n0 ≤ b16 := Nat.le_trans Z0 (Nat.le_of_eq g16.symm)
            replace V_b16 : Arv Z h16 b16 kA16 .char (6 : Int32) [(.int (0 : Int32)), (.int (0 : Int32)), (.int (0 : Int32)), (.int (0 : Int32)), (.int (0 : Int32)), (.int (0 : Int32))] (.int (0 : Int32)) := V_b16.pad (pad_rep [] (.int (0 : Int32)) 6)
            refine own_astore X16 hx hby at_62 (pc' := 64) rfl rfl (Ls' := #[.val (.int p1), .val (.int p2), .val (.int p3), .val (.long pf), .second, .val (.int p4), .val (.int q), .val (.ref b16), .unset, .unset, .unset, .unset, .unset, .unset]) rfl ?_
            refine own_aload X16 hx hby at_64 (pc' := 66) rfl rfl rfl ?_
            refine own_iconst X16 hx hby at_66 (pc' := 67) rfl (z := 0) rfl ?_
            refine own_iloadN X16 hx hby at_67 (pc' := 68) rfl rfl ?_
            refine own_callM X16 hx hby hml hZ hown (ow_105 hw) (ow_106 hw) (ow_107 hw) (ow_108 hw) (by decide) (cc := 0) (ss := 0) (rm_put1_0 l Z a0 hw b16 p1 (.int (0 : Int32)) (.int (0 : Int32)) (.int (0 : Int32)) (.int (0 : Int32)) (.int (0 : Int32)) (.int (0 : Int32)) kA16 h16 n0 (Nat.le_trans Z0 E16.1) n0_b16 V_b16 h0_) 0 rfl rfl (by decide) (by decide) rfl (argsL := [(.ref b16), (.int (0 : Int32)), (.int p1)]) (rest := []) opd_20 rfl rfl (Nat.le_refl _) at_68 (pc' := 71) rfl rfl e16 (by decide) (by decide) ?_
            rintro v18 T18 h18 L18 X18 e18 ⟨rfl, Nq18, Kq18, Vq18⟩
            have N18 := N0.app Nq18
            have Ea19 := own_xk E16 Kq18 (allS le17 all0)
            refine own_istore X18 hx hby at_71 (pc' := 73) rfl (Ls' := #[.val (.int p1), .val (.int p2), .val (.int p3), .val (.long pf), .second, .val (.int p4), .val (.int q), .val (.ref b16), .val (.int (2 : Int32)), .unset, .unset, .unset, .unset, .unset]) rfl ?_
            refine own_aload X18 hx hby at_73 (pc' := 75) rfl rfl rfl ?_
            refine own_iload X18 hx hby at_75 (pc' := 77) rfl rfl ?_
            refine own_iloadN X18 hx hby at_77 (pc' := 78) rfl rfl ?_
            refine own_callM X18 hx hby hml hZ hown (ow_105 hw) (ow_106 hw) (ow_107 hw) (ow_108 hw) (by decide) (cc := 0) (ss := 0) (rm_put1_2 l Z a0 hw b16 p2 (.int (92 : Int32)) (.int (own_le (p1 &&& (7 : Int32)))) (.int (0 : Int32)) (.int (0 : Int32)) (.int (0 : Int32)) (.int (0 : Int32)) kA16 h18 n0 (Nat.le_trans Z0 Ea19.1) n0_b16 Vq18 h1_) 0 rfl rfl (by decide) (by decide) rfl (argsL := [(.ref b16), (.int (2 : Int32)), (.int p2)]) (rest := []) opd_20 rfl rfl (Nat.le_refl _) at_78 (pc' := 81) rfl rfl e18 (by decide) (by decide) ?_
            rintro v20 T20 h20 L20 X20 e20 ⟨rfl, Nq20, Kq20, Vq20⟩
            have N20 := N18.app Nq20
            have Ea21 := own_xk Ea19 Kq20 (allS le17 all0)
            refine own_istore X20 hx hby at_81 (pc' := 83) rfl (Ls' := #[.val (.int p1), .val (.int p2), .val (.int p3), .val (.long pf), .second, .val (.int p4), .val (.int q), .val (.ref b16), .val (.int (2 : Int32)), .val (.int (4 : Int32)), .unset, .unset, .unset, .unset]) rfl ?_
            refine own_aload X20 hx hby at_83 (pc' := 85) rfl rfl rfl ?_
            refine own_iload X20 hx hby at_85 (pc' := 87) rfl rfl ?_
            refine own_iloadN X20 hx hby at_87 (pc' := 88) rfl rfl ?_
            refine own_callM X20 hx hby hml hZ hown (ow_105 hw) (ow_106 hw) (ow_107 hw) (ow_108 hw) (by decide) (cc := 0) (ss := 0) (rm_put1_4 l Z a0 hw b16 p3 (.int (92 : Int32)) (.int (own_le (p1 &&& (7 : Int32)))) (.int (92 : Int32)) (.int (own_le (p2 &&& (7 : Int32)))) (.int (0 : Int32)) (.int (0 : Int32)) kA16 h20 n0 (Nat.le_trans Z0 Ea21.1) n0_b16 Vq20 h2_) 0 rfl rfl (by decide) (by decide) rfl (argsL := [(.ref b16), (.int (4 : Int32)), (.int p3)]) (rest := []) opd_20 rfl rfl (Nat.le_refl _) at_88 (pc' := 91) rfl rfl e20 (by decide) (by decide) ?_
            rintro v22 T22 h22 L22 X22 e22 ⟨rfl, Nq22, Kq22, Vq22⟩
            have N22 := N20.app Nq22
            have Ea23 := own_xk Ea21 Kq22 (allS le17 all0)
            refine own_istore X22 hx hby at_91 (pc' := 93) rfl (Ls' := #[.val (.int p1), .val (.int p2), .val (.int p3), .val (.long pf), .second, .val (.int p4), .val (.int q), .val (.ref b16), .val (.int (2 : Int32)), .val (.int (4 : Int32)), .val (.int (6 : Int32)), .unset, .unset, .unset]) rfl ?_
            refine own_iload X22 hx hby at_93 (pc' := 95) rfl rfl ?_
            refine own_iconst X22 hx hby at_95 (pc' := 96) rfl (z := 3) rfl ?_
            refine own_icmpY X22 hx hby at_96 (by decide) (pc' := 108) (by decide) (tlt (by decide)).2.2.1 ?_
            refine own_iload X22 hx hby at_108 (pc' := 110) rfl rfl ?_
            refine own_iconst X22 hx hby at_110 (pc' := 111) rfl (z := 4) rfl ?_
            refine own_icmpY X22 hx hby at_111 (by decide) (pc' := 126) (by decide) (tlt (by decide)).2.2.1 ?_
            refine own_iload X22 hx hby at_126 (pc' := 128) rfl rfl ?_
            refine own_iconst X22 hx hby at_128 (pc' := 129) rfl (z := 5) rfl ?_
            refine own_icmpY X22 hx hby at_129 (by decide) (pc' := 144) (by decide) (tlt (by decide)).2.2.1 ?_
            refine own_newO X22 hx hby hZ hown (ow_118 hw) (ow_2 hw) (ow_1 hw) e22 at_144 (pc' := 147) rfl (by decide) (by decide) ?_
            intro T24 h24 b24 g24 X24 e24 E24 AX24 D24
            have le25 : h0.size ≤ b24 := Nat.le_trans Ea23.1 (Nat.le_of_eq g24.symm)
            have le26 : h22.size ≤ b24 := Nat.le_of_eq g24.symm
            have n0_b24 : n0 ≤ b24 := Nat.le_trans (Nat.le_trans Z0 Ea23.1) (Nat.le_of_eq g24.symm)
            have Ea27 := own_xt Ea23 E24
            have F_value_b24 : Fld Z h24 b24 "java/lang/String" "value" "[B" .null := D24 (Or.inr (ow_4 hw)) (ty := (.array .byte)) (by decide)
            have F_coder_b24 : Fld Z h24 b24 "java/lang/String" "coder" "B" (.int (0 : Int32)) := D24 (Or.inr (ow_5 hw)) (ty := .byte) (by decide)
            refine own_dup X24 hx hby at_147 (pc' := 148) rfl rfl ?_
            refine own_aload X24 hx hby at_148 (pc' := 150) rfl rfl rfl ?_
            have hp2 : ∀ c ∈ ([(92 : Int32), (own_le (p1 &&& (7 : Int32))), (92 : Int32), (own_le (p2 &&& (7 : Int32))), (92 : Int32), (own_le (p3 &&& (7 : Int32)))] : List Int32), ¬ c < 0 ∧ ¬ (255 : Int32) < c := (own_allC ⟨by decide, by decide⟩ (own_allC (own_le_b _) (own_allC ⟨by decide, by decide⟩ (own_allC (own_le_b _) (own_allC ⟨by decide, by decide⟩ (own_allC (own_le_b _) own_all0))))))
            refine own_spec X24 hx hby hml hZ hown rfl (ow_119 hw) (ow_120 hw) (ow_121 hw) (by decide) (cc := 1) (ss := 6) (StrChars.Road.backV (W := 1) hZ (own_hws hw) (kI := 4) (ow_2 hw) (cs := [(92 : Int32), (own_le (p1 &&& (7 : Int32))), (92 : Int32), (own_le (p2 &&& (7 : Int32))), (92 : Int32), (own_le (p3 &&& (7 : Int32)))]) (bs := ([(92 : Int32), (own_le (p1 &&& (7 : Int32))), (92 : Int32), (own_le (p2 &&& (7 : Int32))), (92 : Int32), (own_le (p3 &&& (7 : Int32)))] : List Int32).map (fun c => c.toInt8.toInt32)) (n := 6) n0_b24 (Nat.le_trans Z0 Ea27.1) AX24 F_value_b24 F_coder_b24 (Vq22.ext E24) (S_cs.ext Ea27) P5 rfl rfl (by decide) (by decide) hp2 rfl (by decide) (by decide)) rfl (argsL := [(.ref b16)]) (rest := [(.ref b24)]) opd_21 rfl rfl (Nat.le_refl _) at_150 (pc' := 153) rfl rfl e24 (by decide) (by decide) ?_
            rintro v28 T28 h28 L28 X28 e28 ⟨rfl, Nq28, Kq28, Aq28, Cq28, t28, kb28, _, _, _, Vq28, Bq28⟩
            have N28 := N22.app Nq28
            have Ea29 := own_xk Ea27 Kq28 (allS le25 all0)
            have Ea30 := own_xk E24 Kq28 (allS le26 all0)
            replace SN := SN.ext Ea29
            replace CH := CH.ext Ea29
            replace S_cs := S_cs.ext Ea29
            replace S_f := S_f.ext Ea29
            replace Vq22 := Vq22.ext Ea30
            have S_b24 : own_Str Z h28 b24 [(92 : Int32), (own_le (p1 &&& (7 : Int32))), (92 : Int32), (own_le (p2 &&& (7 : Int32))), (92 : Int32), (own_le (p3 &&& (7 : Int32)))] := ⟨Aq28, Cq28, hp2, t28, kb28, Vq28, Bq28⟩
            have A_b24 := S_b24.exa
            refine own_ldcO X28 hx hby hZ hown SN CH (own_ew hw) (own_ws hw) (ow_8 hw) e28 at_153 (pc' := 155) rfl (n := 40) (by decide) (by decide) (by decide) (by decide) ?_
            intro T31 vm31 h31 q31 X31 e31 hZ hown SN31 CH31 E31
            have Ea32 := own_xt Ea29 E31
            replace S_cs := S_cs.ext E31
            replace S_f := S_f.ext E31
            replace Vq22 := Vq22.ext E31
            replace S_b24 := S_b24.ext E31
            replace A_b24 := A_b24.ext E31
            refine own_callM X31 hx hby hml hZ hown (ow_9 hw) (ow_10 hw) (ow_11 hw) (ow_12 hw) (by decide) (cc := 4) (ss := 20) (rm_une l Z a0 hw b24 q31 [(92 : Int32), (own_le (p1 &&& (7 : Int32))), (92 : Int32), (own_le (p2 &&& (7 : Int32))), (92 : Int32), (own_le (p3 &&& (7 : Int32)))] [(own_me (p1 &&& (7 : Int32))), (own_me (p2 &&& (7 : Int32))), (own_me (p3 &&& (7 : Int32)))] [((own_le (p1 &&& (7 : Int32))), some (own_me (p1 &&& (7 : Int32)))), ((own_le (p2 &&& (7 : Int32))), some (own_me (p2 &&& (7 : Int32)))), ((own_le (p3 &&& (7 : Int32))), some (own_me (p3 &&& (7 : Int32))))] G1 fm h31 n0 (Nat.le_trans Z0 Ea32.1) S_cs P5 S_f rf S_b24 (Nat.le_of_ble_eq_true rfl) (own_allC (own_oke h0_) (own_allC (own_oke h1_) (own_allC (own_oke h2_) own_all0))) rfl rfl) 0 rfl rfl (by decide) (by decide) rfl (argsL := [(.ref b24), (.ref q31)]) (rest := []) opd_17 rfl rfl (Nat.le_refl _) at_155 (pc' := 158) rfl rfl e31 (by decide) (by decide) ?_
            rintro v33 T33 h33 L33 X33 e33 ⟨r, rfl, Eq33, Nq33, S_r⟩
            have N33 := N28.app Nq33
            have Ea34 := own_xt Ea32 Eq33
            replace S_cs := S_cs.ext Eq33
            replace S_f := S_f.ext Eq33
            replace Vq22 := Vq22.ext Eq33
            replace S_b24 := S_b24.ext Eq33
            replace A_b24 := A_b24.ext Eq33
            replace SN31 := SN31.ext Eq33
            replace CH31 := CH31.ext Eq33
            have A_r := S_r.exa
            refine own_astore X33 hx hby at_158 (pc' := 160) rfl rfl (Ls' := #[.val (.int p1), .val (.int p2), .val (.int p3), .val (.long pf), .second, .val (.int p4), .val (.int q), .val (.ref b16), .val (.int (2 : Int32)), .val (.int (4 : Int32)), .val (.int (6 : Int32)), .val (.ref r), .unset, .unset]) rfl ?_
            refine own_bipush X33 hx hby at_160 (pc' := 162) rfl (z := 9) rfl ?_
            refine own_iload X33 hx hby at_162 (pc' := 164) rfl rfl ?_
            refine own_isub X33 hx hby at_164 (pc' := 165) rfl ?_
            refine own_istore X33 hx hby at_165 (pc' := 167) rfl (Ls' := #[.val (.int p1), .val (.int p2), .val (.int p3), .val (.long pf), .second, .val (.int p4), .val (.int q), .val (.ref b16), .val (.int (2 : Int32)), .val (.int (4 : Int32)), .val (.int (6 : Int32)), .val (.ref r), .val (.int ((9 : Int32) - (6 : Int32))), .unset]) rfl ?_
            refine own_aload X33 hx hby at_167 (pc' := 169) rfl rfl rfl ?_
            refine own_virt X33 hx hby hml hZ hown (ow_188 hw) (ow_17 hw) (notFace_of_selects (args := #[]) (mvT hZ (ow_19 hw))) (ow_19 hw) (ow_18 hw) (by decide) (cc := 0) (ss := 0) (own_lenB (W := 0) hZ hw S_r (Nat.le_of_ble_eq_true rfl) S_cs P5 (by decide) (by decide)) rfl A_r (argsL := []) (rest := []) opd_3 rfl rfl (Nat.le_refl _) at_169 (pc' := 172) rfl rfl e33 (by decide) (by decide) ?_
            rintro v35 T35 h35 L35 X35 e35 ⟨hv35, hl35, hh35⟩
            subst hl35
            obtain rfl := hh35.symm
            obtain rfl := hv35
            have N35 := N33.app (Fr.nil n0)
            refine own_iload X35 hx hby at_172 (pc' := 174) rfl rfl ?_
            refine own_icmpY X35 hx hby at_174 (by decide) (pc' := 179) (by decide) (teq (show Int32.ofNat 3 = (9 : Int32) - (6 : Int32) from by decide)).1 ?_
            refine own_aload X35 hx hby at_179 (pc' := 181) rfl rfl rfl ?_
            refine own_iconst X35 hx hby at_181 (pc' := 182) rfl (z := 0) rfl ?_
            refine own_virt X35 hx hby hml hZ hown (ow_189 hw) (ow_136 hw) (notFace_of_selects (args := #[]) (mvT hZ (ow_138 hw))) (ow_138 hw) (ow_137 hw) (by decide) (cc := 0) (ss := 0) (own_chB (W := 0) hZ hw (i := 0) S_r (Nat.le_of_ble_eq_true rfl) S_cs P5 S_f rf (Nat.le_of_ble_eq_true rfl) rfl (by decide) (by decide)) rfl A_r (argsL := [(.int (0 : Int32))]) (rest := []) opd_14 rfl rfl (Nat.le_refl _) at_182 (pc' := 185) rfl rfl e35 (by decide) (by decide) ?_
            rintro v36 T36 h36 L36 X36 e36 ⟨hv36, hl36, hh36⟩
            rw [(show List.getD ([(own_me (p1 &&& (7 : Int32))), (own_me (p2 &&& (7 : Int32))), (own_me (p3 &&& (7 : Int32)))] : List Int32) 0 0 = (own_me (p1 &&& (7 : Int32))) from rfl)] at hv36
            subst hl36
            obtain rfl := hh36.symm
            obtain rfl := hv36
            have N36 := N35.app (Fr.nil n0)
            refine own_iloadN X36 hx hby at_185 (pc' := 186) rfl rfl ?_
            refine own_callM X36 hx hby hml hZ hown (ow_190 hw) (ow_191 hw) (ow_107 hw) (ow_192 hw) (by decide) (cc := 0) (ss := 0) (rm_out1 l Z a0 hw p1 h33 n0 (Nat.le_trans Z0 Ea34.1) h0_) 1 rfl rfl (by decide) (by decide) rfl (argsL := [(.int p1)]) (rest := [(.int (own_me (p1 &&& (7 : Int32))))]) opd_14 rfl rfl (Nat.le_refl _) at_186 (pc' := 189) rfl rfl e36 (by decide) (by decide) ?_
            rintro v37 T37 h37 L37 X37 e37 ⟨rfl, Nq37, rfl⟩
            have N37 := N36.app Nq37
            refine own_icmpN X37 hx hby at_189 (pc' := 192) rfl (teq rfl).2 ?_
            refine own_aload X37 hx hby at_192 (pc' := 194) rfl rfl rfl ?_
            refine own_iconst X37 hx hby at_194 (pc' := 195) rfl (z := 1) rfl ?_
            refine own_virt X37 hx hby hml hZ hown (ow_189 hw) (ow_136 hw) (notFace_of_selects (args := #[]) (mvT hZ (ow_138 hw))) (ow_138 hw) (ow_137 hw) (by decide) (cc := 0) (ss := 0) (own_chB (W := 0) hZ hw (i := 1) S_r (Nat.le_of_ble_eq_true rfl) S_cs P5 S_f rf (Nat.le_of_ble_eq_true rfl) rfl (by decide) (by decide)) rfl A_r (argsL := [(.int (1 : Int32))]) (rest := []) opd_14 rfl rfl (Nat.le_refl _) at_195 (pc' := 198) rfl rfl e37 (by decide) (by decide) ?_
            rintro v38 T38 h38 L38 X38 e38 ⟨hv38, hl38, hh38⟩
            rw [(show List.getD ([(own_me (p1 &&& (7 : Int32))), (own_me (p2 &&& (7 : Int32))), (own_me (p3 &&& (7 : Int32)))] : List Int32) 1 0 = (own_me (p2 &&& (7 : Int32))) from rfl)] at hv38
            subst hl38
            obtain rfl := hh38.symm
            obtain rfl := hv38
            have N38 := N37.app (Fr.nil n0)
            refine own_iloadN X38 hx hby at_198 (pc' := 199) rfl rfl ?_
            refine own_callM X38 hx hby hml hZ hown (ow_190 hw) (ow_191 hw) (ow_107 hw) (ow_192 hw) (by decide) (cc := 0) (ss := 0) (rm_out1 l Z a0 hw p2 h33 n0 (Nat.le_trans Z0 Ea34.1) h1_) 1 rfl rfl (by decide) (by decide) rfl (argsL := [(.int p2)]) (rest := [(.int (own_me (p2 &&& (7 : Int32))))]) opd_14 rfl rfl (Nat.le_refl _) at_199 (pc' := 202) rfl rfl e38 (by decide) (by decide) ?_
            rintro v39 T39 h39 L39 X39 e39 ⟨rfl, Nq39, rfl⟩
            have N39 := N38.app Nq39
            refine own_icmpN X39 hx hby at_202 (pc' := 205) rfl (teq rfl).2 ?_
            refine own_aload X39 hx hby at_205 (pc' := 207) rfl rfl rfl ?_
            refine own_iconst X39 hx hby at_207 (pc' := 208) rfl (z := 2) rfl ?_
            refine own_virt X39 hx hby hml hZ hown (ow_189 hw) (ow_136 hw) (notFace_of_selects (args := #[]) (mvT hZ (ow_138 hw))) (ow_138 hw) (ow_137 hw) (by decide) (cc := 0) (ss := 0) (own_chB (W := 0) hZ hw (i := 2) S_r (Nat.le_of_ble_eq_true rfl) S_cs P5 S_f rf (Nat.le_of_ble_eq_true rfl) rfl (by decide) (by decide)) rfl A_r (argsL := [(.int (2 : Int32))]) (rest := []) opd_14 rfl rfl (Nat.le_refl _) at_208 (pc' := 211) rfl rfl e39 (by decide) (by decide) ?_
            rintro v40 T40 h40 L40 X40 e40 ⟨hv40, hl40, hh40⟩
            rw [(show List.getD ([(own_me (p1 &&& (7 : Int32))), (own_me (p2 &&& (7 : Int32))), (own_me (p3 &&& (7 : Int32)))] : List Int32) 2 0 = (own_me (p3 &&& (7 : Int32))) from rfl)] at hv40
            subst hl40
            obtain rfl := hh40.symm
            obtain rfl := hv40
            have N40 := N39.app (Fr.nil n0)
            refine own_iloadN X40 hx hby at_211 (pc' := 212) rfl rfl ?_
            refine own_callM X40 hx hby hml hZ hown (ow_190 hw) (ow_191 hw) (ow_107 hw) (ow_192 hw) (by decide) (cc := 0) (ss := 0) (rm_out1 l Z a0 hw p3 h33 n0 (Nat.le_trans Z0 Ea34.1) h2_) 1 rfl rfl (by decide) (by decide) rfl (argsL := [(.int p3)]) (rest := [(.int (own_me (p3 &&& (7 : Int32))))]) opd_14 rfl rfl (Nat.le_refl _) at_212 (pc' := 215) rfl rfl e40 (by decide) (by decide) ?_
            rintro v41 T41 h41 L41 X41 e41 ⟨rfl, Nq41, rfl⟩
            have N41 := N40.app Nq41
            refine own_icmpN X41 hx hby at_215 (pc' := 218) rfl (teq rfl).2 ?_
            refine own_iconst X41 hx hby at_218 (pc' := 219) rfl (z := 1) rfl ?_
            refine own_goto X41 hx hby at_219 (by decide) (pc' := 223) (by decide) ?_
            refine own_istore X41 hx hby at_223 (pc' := 225) rfl (Ls' := #[.val (.int p1), .val (.int p2), .val (.int p3), .val (.long pf), .second, .val (.int p4), .val (.int q), .val (.ref b16), .val (.int (2 : Int32)), .val (.int (4 : Int32)), .val (.int (6 : Int32)), .val (.ref r), .val (.int ((9 : Int32) - (6 : Int32))), .val (.int (1 : Int32))]) rfl ?_
            refine own_iload X41 hx hby at_225 (pc' := 227) rfl rfl ?_
            refine own_iconst X41 hx hby at_227 (pc' := 228) rfl (z := 3) rfl ?_
            refine own_icmpY X41 hx hby at_228 (by decide) (pc' := 257) (by decide) (flt (by decide)).2.2.2 ?_
            refine own_iload X41 hx hby at_257 (pc' := 259) rfl rfl ?_
            refine own_iconst X41 hx hby at_259 (pc' := 260) rfl (z := 4) rfl ?_
            refine own_icmpY X41 hx hby at_260 (by decide) (pc' := 291) (by decide) (flt (by decide)).2.2.2 ?_
            refine own_iload X41 hx hby at_291 (pc' := 293) rfl rfl ?_
            refine own_iconst X41 hx hby at_293 (pc' := 294) rfl (z := 5) rfl ?_
            refine own_icmpY X41 hx hby at_294 (by decide) (pc' := 325) (by decide) (flt (by decide)).2.2.2 ?_
            refine own_iload X41 hx hby at_325 (pc' := 327) rfl rfl ?_
            exact own_retNW X41 hx hby hZ (own_ew hw) e41 SN31 CH31 hlk hrt (by simp) at_327 (z' := (1 : Int32)) rfl ⟨rfl, N41⟩ (by decide) (by decide)
          · refine own_newP (aty := .char) X0 hx hby hZ (ow_104 hw) e0 at_60 (pc' := 62) rfl (by decide) (cap := 6) (by decide) (by decide) (by decide) (by decide) ?_
            intro T42 h42 b42 kA42 g42 X42 e42 E42 V_b42
            have le43 : h0.size ≤ b42 := Nat.le_of_eq g42.symm
            have n0_b42 : n0 ≤ b42 := Nat.le_trans Z0 (Nat.le_of_eq g42.symm)
            replace V_b42 : Arv Z h42 b42 kA42 .char (6 : Int32) [(.int (0 : Int32)), (.int (0 : Int32)), (.int (0 : Int32)), (.int (0 : Int32)), (.int (0 : Int32)), (.int (0 : Int32))] (.int (0 : Int32)) := V_b42.pad (pad_rep [] (.int (0 : Int32)) 6)
            refine own_astore X42 hx hby at_62 (pc' := 64) rfl rfl (Ls' := #[.val (.int p1), .val (.int p2), .val (.int p3), .val (.long pf), .second, .val (.int p4), .val (.int q), .val (.ref b42), .unset, .unset, .unset, .unset, .unset, .unset]) rfl ?_
            refine own_aload X42 hx hby at_64 (pc' := 66) rfl rfl rfl ?_
            refine own_iconst X42 hx hby at_66 (pc' := 67) rfl (z := 0) rfl ?_
            refine own_iloadN X42 hx hby at_67 (pc' := 68) rfl rfl ?_
            refine own_callM X42 hx hby hml hZ hown (ow_105 hw) (ow_106 hw) (ow_107 hw) (ow_108 hw) (by decide) (cc := 0) (ss := 0) (rm_put1_0 l Z a0 hw b42 p1 (.int (0 : Int32)) (.int (0 : Int32)) (.int (0 : Int32)) (.int (0 : Int32)) (.int (0 : Int32)) (.int (0 : Int32)) kA42 h42 n0 (Nat.le_trans Z0 E42.1) n0_b42 V_b42 h0_) 0 rfl rfl (by decide) (by decide) rfl (argsL := [(.ref b42), (.int (0 : Int32)), (.int p1)]) (rest := []) opd_20 rfl rfl (Nat.le_refl _) at_68 (pc' := 71) rfl rfl e42 (by decide) (by decide) ?_
            rintro v44 T44 h44 L44 X44 e44 ⟨rfl, Nq44, Kq44, Vq44⟩
            have N44 := N0.app Nq44
            have Ea45 := own_xk E42 Kq44 (allS le43 all0)
            refine own_istore X44 hx hby at_71 (pc' := 73) rfl (Ls' := #[.val (.int p1), .val (.int p2), .val (.int p3), .val (.long pf), .second, .val (.int p4), .val (.int q), .val (.ref b42), .val (.int (2 : Int32)), .unset, .unset, .unset, .unset, .unset]) rfl ?_
            refine own_aload X44 hx hby at_73 (pc' := 75) rfl rfl rfl ?_
            refine own_iload X44 hx hby at_75 (pc' := 77) rfl rfl ?_
            refine own_iloadN X44 hx hby at_77 (pc' := 78) rfl rfl ?_
            refine own_callM X44 hx hby hml hZ hown (ow_105 hw) (ow_106 hw) (ow_107 hw) (ow_108 hw) (by decide) (cc := 0) (ss := 0) (rm_put1_2 l Z a0 hw b42 p2 (.int (92 : Int32)) (.int (own_le (p1 &&& (7 : Int32)))) (.int (0 : Int32)) (.int (0 : Int32)) (.int (0 : Int32)) (.int (0 : Int32)) kA42 h44 n0 (Nat.le_trans Z0 Ea45.1) n0_b42 Vq44 h1_) 0 rfl rfl (by decide) (by decide) rfl (argsL := [(.ref b42), (.int (2 : Int32)), (.int p2)]) (rest := []) opd_20 rfl rfl (Nat.le_refl _) at_78 (pc' := 81) rfl rfl e44 (by decide) (by decide) ?_
            rintro v46 T46 h46 L46 X46 e46 ⟨rfl, Nq46, Kq46, Vq46⟩
            have N46 := N44.app Nq46
            have Ea47 := own_xk Ea45 Kq46 (allS le43 all0)
            refine own_istore X46 hx hby at_81 (pc' := 83) rfl (Ls' := #[.val (.int p1), .val (.int p2), .val (.int p3), .val (.long pf), .second, .val (.int p4), .val (.int q), .val (.ref b42), .val (.int (2 : Int32)), .val (.int (4 : Int32)), .unset, .unset, .unset, .unset]) rfl ?_
            refine own_aload X46 hx hby at_83 (pc' := 85) rfl rfl rfl ?_
            refine own_iload X46 hx hby at_85 (pc' := 87) rfl rfl ?_
            refine own_iloadN X46 hx hby at_87 (pc' := 88) rfl rfl ?_
            refine own_callM X46 hx hby hml hZ hown (ow_105 hw) (ow_106 hw) (ow_107 hw) (ow_108 hw) (by decide) (cc := 0) (ss := 0) (rm_put0_4 l Z a0 hw b42 p3 (.int (92 : Int32)) (.int (own_le (p1 &&& (7 : Int32)))) (.int (92 : Int32)) (.int (own_le (p2 &&& (7 : Int32)))) (.int (0 : Int32)) (.int (0 : Int32)) kA42 h46 n0 (Nat.le_trans Z0 Ea47.1) n0_b42 Vq46 h2_) 0 rfl rfl (by decide) (by decide) rfl (argsL := [(.ref b42), (.int (4 : Int32)), (.int p3)]) (rest := []) opd_20 rfl rfl (Nat.le_refl _) at_88 (pc' := 91) rfl rfl e46 (by decide) (by decide) ?_
            rintro v48 T48 h48 L48 X48 e48 ⟨rfl, Nq48, Kq48, Vq48⟩
            have N48 := N46.app Nq48
            have Ea49 := own_xk Ea47 Kq48 (allS le43 all0)
            refine own_istore X48 hx hby at_91 (pc' := 93) rfl (Ls' := #[.val (.int p1), .val (.int p2), .val (.int p3), .val (.long pf), .second, .val (.int p4), .val (.int q), .val (.ref b42), .val (.int (2 : Int32)), .val (.int (4 : Int32)), .val (.int (5 : Int32)), .unset, .unset, .unset]) rfl ?_
            refine own_iload X48 hx hby at_93 (pc' := 95) rfl rfl ?_
            refine own_iconst X48 hx hby at_95 (pc' := 96) rfl (z := 3) rfl ?_
            refine own_icmpY X48 hx hby at_96 (by decide) (pc' := 108) (by decide) (tlt (by decide)).2.2.1 ?_
            refine own_iload X48 hx hby at_108 (pc' := 110) rfl rfl ?_
            refine own_iconst X48 hx hby at_110 (pc' := 111) rfl (z := 4) rfl ?_
            refine own_icmpY X48 hx hby at_111 (by decide) (pc' := 126) (by decide) (tlt (by decide)).2.2.1 ?_
            refine own_iload X48 hx hby at_126 (pc' := 128) rfl rfl ?_
            refine own_iconst X48 hx hby at_128 (pc' := 129) rfl (z := 5) rfl ?_
            refine own_icmpN X48 hx hby at_129 (pc' := 132) rfl (flt (by decide)).2.2.1 ?_
            refine own_aload X48 hx hby at_132 (pc' := 134) rfl rfl rfl ?_
            refine own_iconst X48 hx hby at_134 (pc' := 135) rfl (z := 5) rfl ?_
            refine own_lloadN X48 hx hby at_135 (pc' := 136) rfl rfl ?_
            refine own_bipush X48 hx hby at_136 (pc' := 138) rfl (z := 16) rfl ?_
            refine own_lushr X48 hx hby at_138 (pc' := 139) rfl ?_
            refine own_l2i X48 hx hby at_139 (pc' := 140) rfl ?_
            refine own_callM X48 hx hby hml hZ hown (ow_115 hw) (ow_116 hw) (ow_107 hw) (ow_117 hw) (by decide) (cc := 0) (ss := 0) (rm_plain l Z a0 hw (((pf.toUInt64 >>> ((16 : Int32) &&& 0x3f).toInt64.toUInt64).toInt64).toInt32) h48 n0 (Nat.le_trans Z0 Ea49.1)) 2 rfl rfl (by decide) (by decide) rfl (argsL := [(.int (((pf.toUInt64 >>> ((16 : Int32) &&& 0x3f).toInt64.toUInt64).toInt64).toInt32))]) (rest := [(.int (5 : Int32)), (.ref b42)]) opd_14 rfl rfl (Nat.le_refl _) at_140 (pc' := 143) rfl rfl e48 (by decide) (by decide) ?_
            rintro v50 T50 h50 L50 X50 e50 ⟨_, rfl, rfl, Nq50, rfl⟩
            have N50 := N48.app Nq50
            refine own_stC X50 hx hby hZ e50 Vq48 ⟨by decide, by decide⟩ 5 rfl (Nat.le_of_ble_eq_true rfl) at_143 (pc' := 144) rfl ?_
            intro T51 h51 X51 e51 W51 V51_b42
            replace V51_b42 : Arv Z h51 b42 kA42 .char (6 : Int32) [(.int (92 : Int32)), (.int (own_le (p1 &&& (7 : Int32)))), (.int (92 : Int32)), (.int (own_le (p2 &&& (7 : Int32)))), (.int (own_pl ((p3.toUInt32 >>> ((3 : Int32) &&& 31).toUInt32).toInt32))), (.int (nar .char (own_pl (((pf.toUInt64 >>> ((16 : Int32) &&& 0x3f).toInt64.toUInt64).toInt64).toInt32))))] (.int (0 : Int32)) := V51_b42
            have Ea52 := own_xw Ea49 W51 le43
            have N51 := own_fr1 (sl := ((5 : Int32)).toNatClampNeg) N50 n0_b42
            rw [own_pl_n] at V51_b42
            refine own_newO X51 hx hby hZ hown (ow_118 hw) (ow_2 hw) (ow_1 hw) e51 at_144 (pc' := 147) rfl (by decide) (by decide) ?_
            intro T53 h53 b53 g53 X53 e53 E53 AX53 D53
            have le54 : h0.size ≤ b53 := Nat.le_trans Ea52.1 (Nat.le_of_eq g53.symm)
            have le55 : h51.size ≤ b53 := Nat.le_of_eq g53.symm
            have n0_b53 : n0 ≤ b53 := Nat.le_trans (Nat.le_trans Z0 Ea52.1) (Nat.le_of_eq g53.symm)
            have Ea56 := own_xt Ea52 E53
            have F_value_b53 : Fld Z h53 b53 "java/lang/String" "value" "[B" .null := D53 (Or.inr (ow_4 hw)) (ty := (.array .byte)) (by decide)
            have F_coder_b53 : Fld Z h53 b53 "java/lang/String" "coder" "B" (.int (0 : Int32)) := D53 (Or.inr (ow_5 hw)) (ty := .byte) (by decide)
            refine own_dup X53 hx hby at_147 (pc' := 148) rfl rfl ?_
            refine own_aload X53 hx hby at_148 (pc' := 150) rfl rfl rfl ?_
            have hp2 : ∀ c ∈ ([(92 : Int32), (own_le (p1 &&& (7 : Int32))), (92 : Int32), (own_le (p2 &&& (7 : Int32))), (own_pl ((p3.toUInt32 >>> ((3 : Int32) &&& 31).toUInt32).toInt32)), (own_pl (((pf.toUInt64 >>> ((16 : Int32) &&& 0x3f).toInt64.toUInt64).toInt64).toInt32))] : List Int32), ¬ c < 0 ∧ ¬ (255 : Int32) < c := (own_allC ⟨by decide, by decide⟩ (own_allC (own_le_b _) (own_allC ⟨by decide, by decide⟩ (own_allC (own_le_b _) (own_allC (own_pl_b _) (own_allC (own_pl_b _) own_all0))))))
            refine own_spec X53 hx hby hml hZ hown rfl (ow_119 hw) (ow_120 hw) (ow_121 hw) (by decide) (cc := 1) (ss := 6) (StrChars.Road.backV (W := 1) hZ (own_hws hw) (kI := 4) (ow_2 hw) (cs := [(92 : Int32), (own_le (p1 &&& (7 : Int32))), (92 : Int32), (own_le (p2 &&& (7 : Int32))), (own_pl ((p3.toUInt32 >>> ((3 : Int32) &&& 31).toUInt32).toInt32)), (own_pl (((pf.toUInt64 >>> ((16 : Int32) &&& 0x3f).toInt64.toUInt64).toInt64).toInt32))]) (bs := ([(92 : Int32), (own_le (p1 &&& (7 : Int32))), (92 : Int32), (own_le (p2 &&& (7 : Int32))), (own_pl ((p3.toUInt32 >>> ((3 : Int32) &&& 31).toUInt32).toInt32)), (own_pl (((pf.toUInt64 >>> ((16 : Int32) &&& 0x3f).toInt64.toUInt64).toInt64).toInt32))] : List Int32).map (fun c => c.toInt8.toInt32)) (n := 6) n0_b53 (Nat.le_trans Z0 Ea56.1) AX53 F_value_b53 F_coder_b53 (V51_b42.ext E53) (S_cs.ext Ea56) P5 rfl rfl (by decide) (by decide) hp2 rfl (by decide) (by decide)) rfl (argsL := [(.ref b42)]) (rest := [(.ref b53)]) opd_21 rfl rfl (Nat.le_refl _) at_150 (pc' := 153) rfl rfl e53 (by decide) (by decide) ?_
            rintro v57 T57 h57 L57 X57 e57 ⟨rfl, Nq57, Kq57, Aq57, Cq57, t57, kb57, _, _, _, Vq57, Bq57⟩
            have N57 := N51.app Nq57
            have Ea58 := own_xk Ea56 Kq57 (allS le54 all0)
            have Ea59 := own_xk E53 Kq57 (allS le55 all0)
            replace SN := SN.ext Ea58
            replace CH := CH.ext Ea58
            replace S_cs := S_cs.ext Ea58
            replace S_f := S_f.ext Ea58
            replace V51_b42 := V51_b42.ext Ea59
            have S_b53 : own_Str Z h57 b53 [(92 : Int32), (own_le (p1 &&& (7 : Int32))), (92 : Int32), (own_le (p2 &&& (7 : Int32))), (own_pl ((p3.toUInt32 >>> ((3 : Int32) &&& 31).toUInt32).toInt32)), (own_pl (((pf.toUInt64 >>> ((16 : Int32) &&& 0x3f).toInt64.toUInt64).toInt64).toInt32))] := ⟨Aq57, Cq57, hp2, t57, kb57, Vq57, Bq57⟩
            have A_b53 := S_b53.exa
            refine own_ldcO X57 hx hby hZ hown SN CH (own_ew hw) (own_ws hw) (ow_8 hw) e57 at_153 (pc' := 155) rfl (n := 40) (by decide) (by decide) (by decide) (by decide) ?_
            intro T60 vm60 h60 q60 X60 e60 hZ hown SN60 CH60 E60
            have Ea61 := own_xt Ea58 E60
            replace S_cs := S_cs.ext E60
            replace S_f := S_f.ext E60
            replace V51_b42 := V51_b42.ext E60
            replace S_b53 := S_b53.ext E60
            replace A_b53 := A_b53.ext E60
            refine own_callM X60 hx hby hml hZ hown (ow_9 hw) (ow_10 hw) (ow_11 hw) (ow_12 hw) (by decide) (cc := 4) (ss := 20) (rm_une l Z a0 hw b53 q60 [(92 : Int32), (own_le (p1 &&& (7 : Int32))), (92 : Int32), (own_le (p2 &&& (7 : Int32))), (own_pl ((p3.toUInt32 >>> ((3 : Int32) &&& 31).toUInt32).toInt32)), (own_pl (((pf.toUInt64 >>> ((16 : Int32) &&& 0x3f).toInt64.toUInt64).toInt64).toInt32))] [(own_me (p1 &&& (7 : Int32))), (own_me (p2 &&& (7 : Int32))), (own_pl ((p3.toUInt32 >>> ((3 : Int32) &&& 31).toUInt32).toInt32)), (own_pl (((pf.toUInt64 >>> ((16 : Int32) &&& 0x3f).toInt64.toUInt64).toInt64).toInt32))] [((own_le (p1 &&& (7 : Int32))), some (own_me (p1 &&& (7 : Int32)))), ((own_le (p2 &&& (7 : Int32))), some (own_me (p2 &&& (7 : Int32)))), ((own_pl ((p3.toUInt32 >>> ((3 : Int32) &&& 31).toUInt32).toInt32)), none), ((own_pl (((pf.toUInt64 >>> ((16 : Int32) &&& 0x3f).toInt64.toUInt64).toInt64).toInt32)), none)] G1 fm h60 n0 (Nat.le_trans Z0 Ea61.1) S_cs P5 S_f rf S_b53 (Nat.le_of_ble_eq_true rfl) (own_allC (own_oke h0_) (own_allC (own_oke h1_) (own_allC (own_okp _) (own_allC (own_okp _) own_all0)))) rfl rfl) 0 rfl rfl (by decide) (by decide) rfl (argsL := [(.ref b53), (.ref q60)]) (rest := []) opd_17 rfl rfl (Nat.le_refl _) at_155 (pc' := 158) rfl rfl e60 (by decide) (by decide) ?_
            rintro v62 T62 h62 L62 X62 e62 ⟨r, rfl, Eq62, Nq62, S_r⟩
            have N62 := N57.app Nq62
            have Ea63 := own_xt Ea61 Eq62
            replace S_cs := S_cs.ext Eq62
            replace S_f := S_f.ext Eq62
            replace V51_b42 := V51_b42.ext Eq62
            replace S_b53 := S_b53.ext Eq62
            replace A_b53 := A_b53.ext Eq62
            replace SN60 := SN60.ext Eq62
            replace CH60 := CH60.ext Eq62
            have A_r := S_r.exa
            refine own_astore X62 hx hby at_158 (pc' := 160) rfl rfl (Ls' := #[.val (.int p1), .val (.int p2), .val (.int p3), .val (.long pf), .second, .val (.int p4), .val (.int q), .val (.ref b42), .val (.int (2 : Int32)), .val (.int (4 : Int32)), .val (.int (5 : Int32)), .val (.ref r), .unset, .unset]) rfl ?_
            refine own_bipush X62 hx hby at_160 (pc' := 162) rfl (z := 9) rfl ?_
            refine own_iload X62 hx hby at_162 (pc' := 164) rfl rfl ?_
            refine own_isub X62 hx hby at_164 (pc' := 165) rfl ?_
            refine own_istore X62 hx hby at_165 (pc' := 167) rfl (Ls' := #[.val (.int p1), .val (.int p2), .val (.int p3), .val (.long pf), .second, .val (.int p4), .val (.int q), .val (.ref b42), .val (.int (2 : Int32)), .val (.int (4 : Int32)), .val (.int (5 : Int32)), .val (.ref r), .val (.int ((9 : Int32) - (5 : Int32))), .unset]) rfl ?_
            refine own_aload X62 hx hby at_167 (pc' := 169) rfl rfl rfl ?_
            refine own_virt X62 hx hby hml hZ hown (ow_188 hw) (ow_17 hw) (notFace_of_selects (args := #[]) (mvT hZ (ow_19 hw))) (ow_19 hw) (ow_18 hw) (by decide) (cc := 0) (ss := 0) (own_lenB (W := 0) hZ hw S_r (Nat.le_of_ble_eq_true rfl) S_cs P5 (by decide) (by decide)) rfl A_r (argsL := []) (rest := []) opd_3 rfl rfl (Nat.le_refl _) at_169 (pc' := 172) rfl rfl e62 (by decide) (by decide) ?_
            rintro v64 T64 h64 L64 X64 e64 ⟨hv64, hl64, hh64⟩
            subst hl64
            obtain rfl := hh64.symm
            obtain rfl := hv64
            have N64 := N62.app (Fr.nil n0)
            refine own_iload X64 hx hby at_172 (pc' := 174) rfl rfl ?_
            refine own_icmpY X64 hx hby at_174 (by decide) (pc' := 179) (by decide) (teq (show Int32.ofNat 4 = (9 : Int32) - (5 : Int32) from by decide)).1 ?_
            refine own_aload X64 hx hby at_179 (pc' := 181) rfl rfl rfl ?_
            refine own_iconst X64 hx hby at_181 (pc' := 182) rfl (z := 0) rfl ?_
            refine own_virt X64 hx hby hml hZ hown (ow_189 hw) (ow_136 hw) (notFace_of_selects (args := #[]) (mvT hZ (ow_138 hw))) (ow_138 hw) (ow_137 hw) (by decide) (cc := 0) (ss := 0) (own_chB (W := 0) hZ hw (i := 0) S_r (Nat.le_of_ble_eq_true rfl) S_cs P5 S_f rf (Nat.le_of_ble_eq_true rfl) rfl (by decide) (by decide)) rfl A_r (argsL := [(.int (0 : Int32))]) (rest := []) opd_14 rfl rfl (Nat.le_refl _) at_182 (pc' := 185) rfl rfl e64 (by decide) (by decide) ?_
            rintro v65 T65 h65 L65 X65 e65 ⟨hv65, hl65, hh65⟩
            rw [(show List.getD ([(own_me (p1 &&& (7 : Int32))), (own_me (p2 &&& (7 : Int32))), (own_pl ((p3.toUInt32 >>> ((3 : Int32) &&& 31).toUInt32).toInt32)), (own_pl (((pf.toUInt64 >>> ((16 : Int32) &&& 0x3f).toInt64.toUInt64).toInt64).toInt32))] : List Int32) 0 0 = (own_me (p1 &&& (7 : Int32))) from rfl)] at hv65
            subst hl65
            obtain rfl := hh65.symm
            obtain rfl := hv65
            have N65 := N64.app (Fr.nil n0)
            refine own_iloadN X65 hx hby at_185 (pc' := 186) rfl rfl ?_
            refine own_callM X65 hx hby hml hZ hown (ow_190 hw) (ow_191 hw) (ow_107 hw) (ow_192 hw) (by decide) (cc := 0) (ss := 0) (rm_out1 l Z a0 hw p1 h62 n0 (Nat.le_trans Z0 Ea63.1) h0_) 1 rfl rfl (by decide) (by decide) rfl (argsL := [(.int p1)]) (rest := [(.int (own_me (p1 &&& (7 : Int32))))]) opd_14 rfl rfl (Nat.le_refl _) at_186 (pc' := 189) rfl rfl e65 (by decide) (by decide) ?_
            rintro v66 T66 h66 L66 X66 e66 ⟨rfl, Nq66, rfl⟩
            have N66 := N65.app Nq66
            refine own_icmpN X66 hx hby at_189 (pc' := 192) rfl (teq rfl).2 ?_
            refine own_aload X66 hx hby at_192 (pc' := 194) rfl rfl rfl ?_
            refine own_iconst X66 hx hby at_194 (pc' := 195) rfl (z := 1) rfl ?_
            refine own_virt X66 hx hby hml hZ hown (ow_189 hw) (ow_136 hw) (notFace_of_selects (args := #[]) (mvT hZ (ow_138 hw))) (ow_138 hw) (ow_137 hw) (by decide) (cc := 0) (ss := 0) (own_chB (W := 0) hZ hw (i := 1) S_r (Nat.le_of_ble_eq_true rfl) S_cs P5 S_f rf (Nat.le_of_ble_eq_true rfl) rfl (by decide) (by decide)) rfl A_r (argsL := [(.int (1 : Int32))]) (rest := []) opd_14 rfl rfl (Nat.le_refl _) at_195 (pc' := 198) rfl rfl e66 (by decide) (by decide) ?_
            rintro v67 T67 h67 L67 X67 e67 ⟨hv67, hl67, hh67⟩
            rw [(show List.getD ([(own_me (p1 &&& (7 : Int32))), (own_me (p2 &&& (7 : Int32))), (own_pl ((p3.toUInt32 >>> ((3 : Int32) &&& 31).toUInt32).toInt32)), (own_pl (((pf.toUInt64 >>> ((16 : Int32) &&& 0x3f).toInt64.toUInt64).toInt64).toInt32))] : List Int32) 1 0 = (own_me (p2 &&& (7 : Int32))) from rfl)] at hv67
            subst hl67
            obtain rfl := hh67.symm
            obtain rfl := hv67
            have N67 := N66.app (Fr.nil n0)
            refine own_iloadN X67 hx hby at_198 (pc' := 199) rfl rfl ?_
            refine own_callM X67 hx hby hml hZ hown (ow_190 hw) (ow_191 hw) (ow_107 hw) (ow_192 hw) (by decide) (cc := 0) (ss := 0) (rm_out1 l Z a0 hw p2 h62 n0 (Nat.le_trans Z0 Ea63.1) h1_) 1 rfl rfl (by decide) (by decide) rfl (argsL := [(.int p2)]) (rest := [(.int (own_me (p2 &&& (7 : Int32))))]) opd_14 rfl rfl (Nat.le_refl _) at_199 (pc' := 202) rfl rfl e67 (by decide) (by decide) ?_
            rintro v68 T68 h68 L68 X68 e68 ⟨rfl, Nq68, rfl⟩
            have N68 := N67.app Nq68
            refine own_icmpN X68 hx hby at_202 (pc' := 205) rfl (teq rfl).2 ?_
            refine own_aload X68 hx hby at_205 (pc' := 207) rfl rfl rfl ?_
            refine own_iconst X68 hx hby at_207 (pc' := 208) rfl (z := 2) rfl ?_
            refine own_virt X68 hx hby hml hZ hown (ow_189 hw) (ow_136 hw) (notFace_of_selects (args := #[]) (mvT hZ (ow_138 hw))) (ow_138 hw) (ow_137 hw) (by decide) (cc := 0) (ss := 0) (own_chB (W := 0) hZ hw (i := 2) S_r (Nat.le_of_ble_eq_true rfl) S_cs P5 S_f rf (Nat.le_of_ble_eq_true rfl) rfl (by decide) (by decide)) rfl A_r (argsL := [(.int (2 : Int32))]) (rest := []) opd_14 rfl rfl (Nat.le_refl _) at_208 (pc' := 211) rfl rfl e68 (by decide) (by decide) ?_
            rintro v69 T69 h69 L69 X69 e69 ⟨hv69, hl69, hh69⟩
            rw [(show List.getD ([(own_me (p1 &&& (7 : Int32))), (own_me (p2 &&& (7 : Int32))), (own_pl ((p3.toUInt32 >>> ((3 : Int32) &&& 31).toUInt32).toInt32)), (own_pl (((pf.toUInt64 >>> ((16 : Int32) &&& 0x3f).toInt64.toUInt64).toInt64).toInt32))] : List Int32) 2 0 = (own_pl ((p3.toUInt32 >>> ((3 : Int32) &&& 31).toUInt32).toInt32)) from rfl)] at hv69
            subst hl69
            obtain rfl := hh69.symm
            obtain rfl := hv69
            have N69 := N68.app (Fr.nil n0)
            refine own_iloadN X69 hx hby at_211 (pc' := 212) rfl rfl ?_
            refine own_callM X69 hx hby hml hZ hown (ow_190 hw) (ow_191 hw) (ow_107 hw) (ow_192 hw) (by decide) (cc := 0) (ss := 0) (rm_out0 l Z a0 hw p3 h62 n0 (Nat.le_trans Z0 Ea63.1) h2_) 1 rfl rfl (by decide) (by decide) rfl (argsL := [(.int p3)]) (rest := [(.int (own_pl ((p3.toUInt32 >>> ((3 : Int32) &&& 31).toUInt32).toInt32)))]) opd_14 rfl rfl (Nat.le_refl _) at_212 (pc' := 215) rfl rfl e69 (by decide) (by decide) ?_
            rintro v70 T70 h70 L70 X70 e70 ⟨rfl, Nq70, rfl⟩
            have N70 := N69.app Nq70
            refine own_icmpN X70 hx hby at_215 (pc' := 218) rfl (teq rfl).2 ?_
            refine own_iconst X70 hx hby at_218 (pc' := 219) rfl (z := 1) rfl ?_
            refine own_goto X70 hx hby at_219 (by decide) (pc' := 223) (by decide) ?_
            refine own_istore X70 hx hby at_223 (pc' := 225) rfl (Ls' := #[.val (.int p1), .val (.int p2), .val (.int p3), .val (.long pf), .second, .val (.int p4), .val (.int q), .val (.ref b42), .val (.int (2 : Int32)), .val (.int (4 : Int32)), .val (.int (5 : Int32)), .val (.ref r), .val (.int ((9 : Int32) - (5 : Int32))), .val (.int (1 : Int32))]) rfl ?_
            refine own_iload X70 hx hby at_225 (pc' := 227) rfl rfl ?_
            refine own_iconst X70 hx hby at_227 (pc' := 228) rfl (z := 3) rfl ?_
            refine own_icmpN X70 hx hby at_228 (pc' := 231) rfl (tlt (by decide)).2.2.2 ?_
            refine own_iload X70 hx hby at_231 (pc' := 233) rfl rfl ?_
            refine own_ifN X70 hx hby at_233 (pc' := 236) rfl (feq (by decide)).1 ?_
            refine own_aload X70 hx hby at_236 (pc' := 238) rfl rfl rfl ?_
            refine own_iconst X70 hx hby at_238 (pc' := 239) rfl (z := 3) rfl ?_
            refine own_virt X70 hx hby hml hZ hown (ow_189 hw) (ow_136 hw) (notFace_of_selects (args := #[]) (mvT hZ (ow_138 hw))) (ow_138 hw) (ow_137 hw) (by decide) (cc := 0) (ss := 0) (own_chB (W := 0) hZ hw (i := 3) S_r (Nat.le_of_ble_eq_true rfl) S_cs P5 S_f rf (Nat.le_of_ble_eq_true rfl) rfl (by decide) (by decide)) rfl A_r (argsL := [(.int (3 : Int32))]) (rest := []) opd_14 rfl rfl (Nat.le_refl _) at_239 (pc' := 242) rfl rfl e70 (by decide) (by decide) ?_
            rintro v71 T71 h71 L71 X71 e71 ⟨hv71, hl71, hh71⟩
            rw [(show List.getD ([(own_me (p1 &&& (7 : Int32))), (own_me (p2 &&& (7 : Int32))), (own_pl ((p3.toUInt32 >>> ((3 : Int32) &&& 31).toUInt32).toInt32)), (own_pl (((pf.toUInt64 >>> ((16 : Int32) &&& 0x3f).toInt64.toUInt64).toInt64).toInt32))] : List Int32) 3 0 = (own_pl (((pf.toUInt64 >>> ((16 : Int32) &&& 0x3f).toInt64.toUInt64).toInt64).toInt32)) from rfl)] at hv71
            subst hl71
            obtain rfl := hh71.symm
            obtain rfl := hv71
            have N71 := N70.app (Fr.nil n0)
            refine own_aload X71 hx hby at_242 (pc' := 244) rfl rfl rfl ?_
            refine own_iload X71 hx hby at_244 (pc' := 246) rfl rfl ?_
            refine own_caloadV X71 hx hby hZ e71 V51_b42 ⟨by decide, by decide⟩ (v := (.int (own_pl (((pf.toUInt64 >>> ((16 : Int32) &&& 0x3f).toInt64.toUInt64).toInt64).toInt32)))) rfl at_246 (pc' := 247) rfl ?_
            refine own_icmpN X71 hx hby at_247 (pc' := 250) rfl (teq rfl).2 ?_
            refine own_iconst X71 hx hby at_250 (pc' := 251) rfl (z := 1) rfl ?_
            refine own_goto X71 hx hby at_251 (by decide) (pc' := 255) (by decide) ?_
            refine own_istore X71 hx hby at_255 (pc' := 257) rfl (Ls' := #[.val (.int p1), .val (.int p2), .val (.int p3), .val (.long pf), .second, .val (.int p4), .val (.int q), .val (.ref b42), .val (.int (2 : Int32)), .val (.int (4 : Int32)), .val (.int (5 : Int32)), .val (.ref r), .val (.int ((9 : Int32) - (5 : Int32))), .val (.int (1 : Int32))]) rfl ?_
            refine own_iload X71 hx hby at_257 (pc' := 259) rfl rfl ?_
            refine own_iconst X71 hx hby at_259 (pc' := 260) rfl (z := 4) rfl ?_
            refine own_icmpY X71 hx hby at_260 (by decide) (pc' := 291) (by decide) (flt (by decide)).2.2.2 ?_
            refine own_iload X71 hx hby at_291 (pc' := 293) rfl rfl ?_
            refine own_iconst X71 hx hby at_293 (pc' := 294) rfl (z := 5) rfl ?_
            refine own_icmpY X71 hx hby at_294 (by decide) (pc' := 325) (by decide) (flt (by decide)).2.2.2 ?_
            refine own_iload X71 hx hby at_325 (pc' := 327) rfl rfl ?_
            exact own_retNW X71 hx hby hZ (own_ew hw) e71 SN60 CH60 hlk hrt (by simp) at_327 (z' := (1 : Int32)) rfl ⟨rfl, N71⟩ (by decide) (by decide)
        · by_cases h2_ : (p3 &&& (7 : Int32)) < (4 : Int32)
          · refine own_newP (aty := .char) X0 hx hby hZ (ow_104 hw) e0 at_60 (pc' := 62) rfl (by decide) (cap := 6) (by decide) (by decide) (by decide) (by decide) ?_
            intro T72 h72 b72 kA72 g72 X72 e72 E72 V_b72
            have le73 : h0.size ≤ b72 := Nat.le_of_eq g72.symm
            have n0_b72 : n0 ≤ b72 := Nat.le_trans Z0 (Nat.le_of_eq g72.symm)
            replace V_b72 : Arv Z h72 b72 kA72 .char (6 : Int32) [(.int (0 : Int32)), (.int (0 : Int32)), (.int (0 : Int32)), (.int (0 : Int32)), (.int (0 : Int32)), (.int (0 : Int32))] (.int (0 : Int32)) := V_b72.pad (pad_rep [] (.int (0 : Int32)) 6)
            refine own_astore X72 hx hby at_62 (pc' := 64) rfl rfl (Ls' := #[.val (.int p1), .val (.int p2), .val (.int p3), .val (.long pf), .second, .val (.int p4), .val (.int q), .val (.ref b72), .unset, .unset, .unset, .unset, .unset, .unset]) rfl ?_
            refine own_aload X72 hx hby at_64 (pc' := 66) rfl rfl rfl ?_
            refine own_iconst X72 hx hby at_66 (pc' := 67) rfl (z := 0) rfl ?_
            refine own_iloadN X72 hx hby at_67 (pc' := 68) rfl rfl ?_
            refine own_callM X72 hx hby hml hZ hown (ow_105 hw) (ow_106 hw) (ow_107 hw) (ow_108 hw) (by decide) (cc := 0) (ss := 0) (rm_put1_0 l Z a0 hw b72 p1 (.int (0 : Int32)) (.int (0 : Int32)) (.int (0 : Int32)) (.int (0 : Int32)) (.int (0 : Int32)) (.int (0 : Int32)) kA72 h72 n0 (Nat.le_trans Z0 E72.1) n0_b72 V_b72 h0_) 0 rfl rfl (by decide) (by decide) rfl (argsL := [(.ref b72), (.int (0 : Int32)), (.int p1)]) (rest := []) opd_20 rfl rfl (Nat.le_refl _) at_68 (pc' := 71) rfl rfl e72 (by decide) (by decide) ?_
            rintro v74 T74 h74 L74 X74 e74 ⟨rfl, Nq74, Kq74, Vq74⟩
            have N74 := N0.app Nq74
            have Ea75 := own_xk E72 Kq74 (allS le73 all0)
            refine own_istore X74 hx hby at_71 (pc' := 73) rfl (Ls' := #[.val (.int p1), .val (.int p2), .val (.int p3), .val (.long pf), .second, .val (.int p4), .val (.int q), .val (.ref b72), .val (.int (2 : Int32)), .unset, .unset, .unset, .unset, .unset]) rfl ?_
            refine own_aload X74 hx hby at_73 (pc' := 75) rfl rfl rfl ?_
            refine own_iload X74 hx hby at_75 (pc' := 77) rfl rfl ?_
            refine own_iloadN X74 hx hby at_77 (pc' := 78) rfl rfl ?_
            refine own_callM X74 hx hby hml hZ hown (ow_105 hw) (ow_106 hw) (ow_107 hw) (ow_108 hw) (by decide) (cc := 0) (ss := 0) (rm_put0_2 l Z a0 hw b72 p2 (.int (92 : Int32)) (.int (own_le (p1 &&& (7 : Int32)))) (.int (0 : Int32)) (.int (0 : Int32)) (.int (0 : Int32)) (.int (0 : Int32)) kA72 h74 n0 (Nat.le_trans Z0 Ea75.1) n0_b72 Vq74 h1_) 0 rfl rfl (by decide) (by decide) rfl (argsL := [(.ref b72), (.int (2 : Int32)), (.int p2)]) (rest := []) opd_20 rfl rfl (Nat.le_refl _) at_78 (pc' := 81) rfl rfl e74 (by decide) (by decide) ?_
            rintro v76 T76 h76 L76 X76 e76 ⟨rfl, Nq76, Kq76, Vq76⟩
            have N76 := N74.app Nq76
            have Ea77 := own_xk Ea75 Kq76 (allS le73 all0)
            refine own_istore X76 hx hby at_81 (pc' := 83) rfl (Ls' := #[.val (.int p1), .val (.int p2), .val (.int p3), .val (.long pf), .second, .val (.int p4), .val (.int q), .val (.ref b72), .val (.int (2 : Int32)), .val (.int (3 : Int32)), .unset, .unset, .unset, .unset]) rfl ?_
            refine own_aload X76 hx hby at_83 (pc' := 85) rfl rfl rfl ?_
            refine own_iload X76 hx hby at_85 (pc' := 87) rfl rfl ?_
            refine own_iloadN X76 hx hby at_87 (pc' := 88) rfl rfl ?_
            refine own_callM X76 hx hby hml hZ hown (ow_105 hw) (ow_106 hw) (ow_107 hw) (ow_108 hw) (by decide) (cc := 0) (ss := 0) (rm_put1_3 l Z a0 hw b72 p3 (.int (92 : Int32)) (.int (own_le (p1 &&& (7 : Int32)))) (.int (own_pl ((p2.toUInt32 >>> ((3 : Int32) &&& 31).toUInt32).toInt32))) (.int (0 : Int32)) (.int (0 : Int32)) (.int (0 : Int32)) kA72 h76 n0 (Nat.le_trans Z0 Ea77.1) n0_b72 Vq76 h2_) 0 rfl rfl (by decide) (by decide) rfl (argsL := [(.ref b72), (.int (3 : Int32)), (.int p3)]) (rest := []) opd_20 rfl rfl (Nat.le_refl _) at_88 (pc' := 91) rfl rfl e76 (by decide) (by decide) ?_
            rintro v78 T78 h78 L78 X78 e78 ⟨rfl, Nq78, Kq78, Vq78⟩
            have N78 := N76.app Nq78
            have Ea79 := own_xk Ea77 Kq78 (allS le73 all0)
            refine own_istore X78 hx hby at_91 (pc' := 93) rfl (Ls' := #[.val (.int p1), .val (.int p2), .val (.int p3), .val (.long pf), .second, .val (.int p4), .val (.int q), .val (.ref b72), .val (.int (2 : Int32)), .val (.int (3 : Int32)), .val (.int (5 : Int32)), .unset, .unset, .unset]) rfl ?_
            refine own_iload X78 hx hby at_93 (pc' := 95) rfl rfl ?_
            refine own_iconst X78 hx hby at_95 (pc' := 96) rfl (z := 3) rfl ?_
            refine own_icmpY X78 hx hby at_96 (by decide) (pc' := 108) (by decide) (tlt (by decide)).2.2.1 ?_
            refine own_iload X78 hx hby at_108 (pc' := 110) rfl rfl ?_
            refine own_iconst X78 hx hby at_110 (pc' := 111) rfl (z := 4) rfl ?_
            refine own_icmpY X78 hx hby at_111 (by decide) (pc' := 126) (by decide) (tlt (by decide)).2.2.1 ?_
            refine own_iload X78 hx hby at_126 (pc' := 128) rfl rfl ?_
            refine own_iconst X78 hx hby at_128 (pc' := 129) rfl (z := 5) rfl ?_
            refine own_icmpN X78 hx hby at_129 (pc' := 132) rfl (flt (by decide)).2.2.1 ?_
            refine own_aload X78 hx hby at_132 (pc' := 134) rfl rfl rfl ?_
            refine own_iconst X78 hx hby at_134 (pc' := 135) rfl (z := 5) rfl ?_
            refine own_lloadN X78 hx hby at_135 (pc' := 136) rfl rfl ?_
            refine own_bipush X78 hx hby at_136 (pc' := 138) rfl (z := 16) rfl ?_
            refine own_lushr X78 hx hby at_138 (pc' := 139) rfl ?_
            refine own_l2i X78 hx hby at_139 (pc' := 140) rfl ?_
            refine own_callM X78 hx hby hml hZ hown (ow_115 hw) (ow_116 hw) (ow_107 hw) (ow_117 hw) (by decide) (cc := 0) (ss := 0) (rm_plain l Z a0 hw (((pf.toUInt64 >>> ((16 : Int32) &&& 0x3f).toInt64.toUInt64).toInt64).toInt32) h78 n0 (Nat.le_trans Z0 Ea79.1)) 2 rfl rfl (by decide) (by decide) rfl (argsL := [(.int (((pf.toUInt64 >>> ((16 : Int32) &&& 0x3f).toInt64.toUInt64).toInt64).toInt32))]) (rest := [(.int (5 : Int32)), (.ref b72)]) opd_14 rfl rfl (Nat.le_refl _) at_140 (pc' := 143) rfl rfl e78 (by decide) (by decide) ?_
            rintro v80 T80 h80 L80 X80 e80 ⟨_, rfl, rfl, Nq80, rfl⟩
            have N80 := N78.app Nq80
            refine own_stC X80 hx hby hZ e80 Vq78 ⟨by decide, by decide⟩ 5 rfl (Nat.le_of_ble_eq_true rfl) at_143 (pc' := 144) rfl ?_
            intro T81 h81 X81 e81 W81 V81_b72
            replace V81_b72 : Arv Z h81 b72 kA72 .char (6 : Int32) [(.int (92 : Int32)), (.int (own_le (p1 &&& (7 : Int32)))), (.int (own_pl ((p2.toUInt32 >>> ((3 : Int32) &&& 31).toUInt32).toInt32))), (.int (92 : Int32)), (.int (own_le (p3 &&& (7 : Int32)))), (.int (nar .char (own_pl (((pf.toUInt64 >>> ((16 : Int32) &&& 0x3f).toInt64.toUInt64).toInt64).toInt32))))] (.int (0 : Int32)) := V81_b72
            have Ea82 := own_xw Ea79 W81 le73
            have N81 := own_fr1 (sl := ((5 : Int32)).toNatClampNeg) N80 n0_b72
            rw [own_pl_n] at V81_b72
            refine own_newO X81 hx hby hZ hown (ow_118 hw) (ow_2 hw) (ow_1 hw) e81 at_144 (pc' := 147) rfl (by decide) (by decide) ?_
            intro T83 h83 b83 g83 X83 e83 E83 AX83 D83
            have le84 : h0.size ≤ b83 := Nat.le_trans Ea82.1 (Nat.le_of_eq g83.symm)
            have le85 : h81.size ≤ b83 := Nat.le_of_eq g83.symm
            have n0_b83 : n0 ≤ b83 := Nat.le_trans (Nat.le_trans Z0 Ea82.1) (Nat.le_of_eq g83.symm)
            have Ea86 := own_xt Ea82 E83
            have F_value_b83 : Fld Z h83 b83 "java/lang/String" "value" "[B" .null := D83 (Or.inr (ow_4 hw)) (ty := (.array .byte)) (by decide)
            have F_coder_b83 : Fld Z h83 b83 "java/lang/String" "coder" "B" (.int (0 : Int32)) := D83 (Or.inr (ow_5 hw)) (ty := .byte) (by decide)
            refine own_dup X83 hx hby at_147 (pc' := 148) rfl rfl ?_
            refine own_aload X83 hx hby at_148 (pc' := 150) rfl rfl rfl ?_
            have hp2 : ∀ c ∈ ([(92 : Int32), (own_le (p1 &&& (7 : Int32))), (own_pl ((p2.toUInt32 >>> ((3 : Int32) &&& 31).toUInt32).toInt32)), (92 : Int32), (own_le (p3 &&& (7 : Int32))), (own_pl (((pf.toUInt64 >>> ((16 : Int32) &&& 0x3f).toInt64.toUInt64).toInt64).toInt32))] : List Int32), ¬ c < 0 ∧ ¬ (255 : Int32) < c := (own_allC ⟨by decide, by decide⟩ (own_allC (own_le_b _) (own_allC (own_pl_b _) (own_allC ⟨by decide, by decide⟩ (own_allC (own_le_b _) (own_allC (own_pl_b _) own_all0))))))
            refine own_spec X83 hx hby hml hZ hown rfl (ow_119 hw) (ow_120 hw) (ow_121 hw) (by decide) (cc := 1) (ss := 6) (StrChars.Road.backV (W := 1) hZ (own_hws hw) (kI := 4) (ow_2 hw) (cs := [(92 : Int32), (own_le (p1 &&& (7 : Int32))), (own_pl ((p2.toUInt32 >>> ((3 : Int32) &&& 31).toUInt32).toInt32)), (92 : Int32), (own_le (p3 &&& (7 : Int32))), (own_pl (((pf.toUInt64 >>> ((16 : Int32) &&& 0x3f).toInt64.toUInt64).toInt64).toInt32))]) (bs := ([(92 : Int32), (own_le (p1 &&& (7 : Int32))), (own_pl ((p2.toUInt32 >>> ((3 : Int32) &&& 31).toUInt32).toInt32)), (92 : Int32), (own_le (p3 &&& (7 : Int32))), (own_pl (((pf.toUInt64 >>> ((16 : Int32) &&& 0x3f).toInt64.toUInt64).toInt64).toInt32))] : List Int32).map (fun c => c.toInt8.toInt32)) (n := 6) n0_b83 (Nat.le_trans Z0 Ea86.1) AX83 F_value_b83 F_coder_b83 (V81_b72.ext E83) (S_cs.ext Ea86) P5 rfl rfl (by decide) (by decide) hp2 rfl (by decide) (by decide)) rfl (argsL := [(.ref b72)]) (rest := [(.ref b83)]) opd_21 rfl rfl (Nat.le_refl _) at_150 (pc' := 153) rfl rfl e83 (by decide) (by decide) ?_
            rintro v87 T87 h87 L87 X87 e87 ⟨rfl, Nq87, Kq87, Aq87, Cq87, t87, kb87, _, _, _, Vq87, Bq87⟩
            have N87 := N81.app Nq87
            have Ea88 := own_xk Ea86 Kq87 (allS le84 all0)
            have Ea89 := own_xk E83 Kq87 (allS le85 all0)
            replace SN := SN.ext Ea88
            replace CH := CH.ext Ea88
            replace S_cs := S_cs.ext Ea88
            replace S_f := S_f.ext Ea88
            replace V81_b72 := V81_b72.ext Ea89
            have S_b83 : own_Str Z h87 b83 [(92 : Int32), (own_le (p1 &&& (7 : Int32))), (own_pl ((p2.toUInt32 >>> ((3 : Int32) &&& 31).toUInt32).toInt32)), (92 : Int32), (own_le (p3 &&& (7 : Int32))), (own_pl (((pf.toUInt64 >>> ((16 : Int32) &&& 0x3f).toInt64.toUInt64).toInt64).toInt32))] := ⟨Aq87, Cq87, hp2, t87, kb87, Vq87, Bq87⟩
            have A_b83 := S_b83.exa
            refine own_ldcO X87 hx hby hZ hown SN CH (own_ew hw) (own_ws hw) (ow_8 hw) e87 at_153 (pc' := 155) rfl (n := 40) (by decide) (by decide) (by decide) (by decide) ?_
            intro T90 vm90 h90 q90 X90 e90 hZ hown SN90 CH90 E90
            have Ea91 := own_xt Ea88 E90
            replace S_cs := S_cs.ext E90
            replace S_f := S_f.ext E90
            replace V81_b72 := V81_b72.ext E90
            replace S_b83 := S_b83.ext E90
            replace A_b83 := A_b83.ext E90
            refine own_callM X90 hx hby hml hZ hown (ow_9 hw) (ow_10 hw) (ow_11 hw) (ow_12 hw) (by decide) (cc := 4) (ss := 20) (rm_une l Z a0 hw b83 q90 [(92 : Int32), (own_le (p1 &&& (7 : Int32))), (own_pl ((p2.toUInt32 >>> ((3 : Int32) &&& 31).toUInt32).toInt32)), (92 : Int32), (own_le (p3 &&& (7 : Int32))), (own_pl (((pf.toUInt64 >>> ((16 : Int32) &&& 0x3f).toInt64.toUInt64).toInt64).toInt32))] [(own_me (p1 &&& (7 : Int32))), (own_pl ((p2.toUInt32 >>> ((3 : Int32) &&& 31).toUInt32).toInt32)), (own_me (p3 &&& (7 : Int32))), (own_pl (((pf.toUInt64 >>> ((16 : Int32) &&& 0x3f).toInt64.toUInt64).toInt64).toInt32))] [((own_le (p1 &&& (7 : Int32))), some (own_me (p1 &&& (7 : Int32)))), ((own_pl ((p2.toUInt32 >>> ((3 : Int32) &&& 31).toUInt32).toInt32)), none), ((own_le (p3 &&& (7 : Int32))), some (own_me (p3 &&& (7 : Int32)))), ((own_pl (((pf.toUInt64 >>> ((16 : Int32) &&& 0x3f).toInt64.toUInt64).toInt64).toInt32)), none)] G1 fm h90 n0 (Nat.le_trans Z0 Ea91.1) S_cs P5 S_f rf S_b83 (Nat.le_of_ble_eq_true rfl) (own_allC (own_oke h0_) (own_allC (own_okp _) (own_allC (own_oke h2_) (own_allC (own_okp _) own_all0)))) rfl rfl) 0 rfl rfl (by decide) (by decide) rfl (argsL := [(.ref b83), (.ref q90)]) (rest := []) opd_17 rfl rfl (Nat.le_refl _) at_155 (pc' := 158) rfl rfl e90 (by decide) (by decide) ?_
            rintro v92 T92 h92 L92 X92 e92 ⟨r, rfl, Eq92, Nq92, S_r⟩
            have N92 := N87.app Nq92
            have Ea93 := own_xt Ea91 Eq92
            replace S_cs := S_cs.ext Eq92
            replace S_f := S_f.ext Eq92
            replace V81_b72 := V81_b72.ext Eq92
            replace S_b83 := S_b83.ext Eq92
            replace A_b83 := A_b83.ext Eq92
            replace SN90 := SN90.ext Eq92
            replace CH90 := CH90.ext Eq92
            have A_r := S_r.exa
            refine own_astore X92 hx hby at_158 (pc' := 160) rfl rfl (Ls' := #[.val (.int p1), .val (.int p2), .val (.int p3), .val (.long pf), .second, .val (.int p4), .val (.int q), .val (.ref b72), .val (.int (2 : Int32)), .val (.int (3 : Int32)), .val (.int (5 : Int32)), .val (.ref r), .unset, .unset]) rfl ?_
            refine own_bipush X92 hx hby at_160 (pc' := 162) rfl (z := 9) rfl ?_
            refine own_iload X92 hx hby at_162 (pc' := 164) rfl rfl ?_
            refine own_isub X92 hx hby at_164 (pc' := 165) rfl ?_
            refine own_istore X92 hx hby at_165 (pc' := 167) rfl (Ls' := #[.val (.int p1), .val (.int p2), .val (.int p3), .val (.long pf), .second, .val (.int p4), .val (.int q), .val (.ref b72), .val (.int (2 : Int32)), .val (.int (3 : Int32)), .val (.int (5 : Int32)), .val (.ref r), .val (.int ((9 : Int32) - (5 : Int32))), .unset]) rfl ?_
            refine own_aload X92 hx hby at_167 (pc' := 169) rfl rfl rfl ?_
            refine own_virt X92 hx hby hml hZ hown (ow_188 hw) (ow_17 hw) (notFace_of_selects (args := #[]) (mvT hZ (ow_19 hw))) (ow_19 hw) (ow_18 hw) (by decide) (cc := 0) (ss := 0) (own_lenB (W := 0) hZ hw S_r (Nat.le_of_ble_eq_true rfl) S_cs P5 (by decide) (by decide)) rfl A_r (argsL := []) (rest := []) opd_3 rfl rfl (Nat.le_refl _) at_169 (pc' := 172) rfl rfl e92 (by decide) (by decide) ?_
            rintro v94 T94 h94 L94 X94 e94 ⟨hv94, hl94, hh94⟩
            subst hl94
            obtain rfl := hh94.symm
            obtain rfl := hv94
            have N94 := N92.app (Fr.nil n0)
            refine own_iload X94 hx hby at_172 (pc' := 174) rfl rfl ?_
            refine own_icmpY X94 hx hby at_174 (by decide) (pc' := 179) (by decide) (teq (show Int32.ofNat 4 = (9 : Int32) - (5 : Int32) from by decide)).1 ?_
            refine own_aload X94 hx hby at_179 (pc' := 181) rfl rfl rfl ?_
            refine own_iconst X94 hx hby at_181 (pc' := 182) rfl (z := 0) rfl ?_
            refine own_virt X94 hx hby hml hZ hown (ow_189 hw) (ow_136 hw) (notFace_of_selects (args := #[]) (mvT hZ (ow_138 hw))) (ow_138 hw) (ow_137 hw) (by decide) (cc := 0) (ss := 0) (own_chB (W := 0) hZ hw (i := 0) S_r (Nat.le_of_ble_eq_true rfl) S_cs P5 S_f rf (Nat.le_of_ble_eq_true rfl) rfl (by decide) (by decide)) rfl A_r (argsL := [(.int (0 : Int32))]) (rest := []) opd_14 rfl rfl (Nat.le_refl _) at_182 (pc' := 185) rfl rfl e94 (by decide) (by decide) ?_
            rintro v95 T95 h95 L95 X95 e95 ⟨hv95, hl95, hh95⟩
            rw [(show List.getD ([(own_me (p1 &&& (7 : Int32))), (own_pl ((p2.toUInt32 >>> ((3 : Int32) &&& 31).toUInt32).toInt32)), (own_me (p3 &&& (7 : Int32))), (own_pl (((pf.toUInt64 >>> ((16 : Int32) &&& 0x3f).toInt64.toUInt64).toInt64).toInt32))] : List Int32) 0 0 = (own_me (p1 &&& (7 : Int32))) from rfl)] at hv95
            subst hl95
            obtain rfl := hh95.symm
            obtain rfl := hv95
            have N95 := N94.app (Fr.nil n0)
            refine own_iloadN X95 hx hby at_185 (pc' := 186) rfl rfl ?_
            refine own_callM X95 hx hby hml hZ hown (ow_190 hw) (ow_191 hw) (ow_107 hw) (ow_192 hw) (by decide) (cc := 0) (ss := 0) (rm_out1 l Z a0 hw p1 h92 n0 (Nat.le_trans Z0 Ea93.1) h0_) 1 rfl rfl (by decide) (by decide) rfl (argsL := [(.int p1)]) (rest := [(.int (own_me (p1 &&& (7 : Int32))))]) opd_14 rfl rfl (Nat.le_refl _) at_186 (pc' := 189) rfl rfl e95 (by decide) (by decide) ?_
            rintro v96 T96 h96 L96 X96 e96 ⟨rfl, Nq96, rfl⟩
            have N96 := N95.app Nq96
            refine own_icmpN X96 hx hby at_189 (pc' := 192) rfl (teq rfl).2 ?_
            refine own_aload X96 hx hby at_192 (pc' := 194) rfl rfl rfl ?_
            refine own_iconst X96 hx hby at_194 (pc' := 195) rfl (z := 1) rfl ?_
            refine own_virt X96 hx hby hml hZ hown (ow_189 hw) (ow_136 hw) (notFace_of_selects (args := #[]) (mvT hZ (ow_138 hw))) (ow_138 hw) (ow_137 hw) (by decide) (cc := 0) (ss := 0) (own_chB (W := 0) hZ hw (i := 1) S_r (Nat.le_of_ble_eq_true rfl) S_cs P5 S_f rf (Nat.le_of_ble_eq_true rfl) rfl (by decide) (by decide)) rfl A_r (argsL := [(.int (1 : Int32))]) (rest := []) opd_14 rfl rfl (Nat.le_refl _) at_195 (pc' := 198) rfl rfl e96 (by decide) (by decide) ?_
            rintro v97 T97 h97 L97 X97 e97 ⟨hv97, hl97, hh97⟩
            rw [(show List.getD ([(own_me (p1 &&& (7 : Int32))), (own_pl ((p2.toUInt32 >>> ((3 : Int32) &&& 31).toUInt32).toInt32)), (own_me (p3 &&& (7 : Int32))), (own_pl (((pf.toUInt64 >>> ((16 : Int32) &&& 0x3f).toInt64.toUInt64).toInt64).toInt32))] : List Int32) 1 0 = (own_pl ((p2.toUInt32 >>> ((3 : Int32) &&& 31).toUInt32).toInt32)) from rfl)] at hv97
            subst hl97
            obtain rfl := hh97.symm
            obtain rfl := hv97
            have N97 := N96.app (Fr.nil n0)
            refine own_iloadN X97 hx hby at_198 (pc' := 199) rfl rfl ?_
            refine own_callM X97 hx hby hml hZ hown (ow_190 hw) (ow_191 hw) (ow_107 hw) (ow_192 hw) (by decide) (cc := 0) (ss := 0) (rm_out0 l Z a0 hw p2 h92 n0 (Nat.le_trans Z0 Ea93.1) h1_) 1 rfl rfl (by decide) (by decide) rfl (argsL := [(.int p2)]) (rest := [(.int (own_pl ((p2.toUInt32 >>> ((3 : Int32) &&& 31).toUInt32).toInt32)))]) opd_14 rfl rfl (Nat.le_refl _) at_199 (pc' := 202) rfl rfl e97 (by decide) (by decide) ?_
            rintro v98 T98 h98 L98 X98 e98 ⟨rfl, Nq98, rfl⟩
            have N98 := N97.app Nq98
            refine own_icmpN X98 hx hby at_202 (pc' := 205) rfl (teq rfl).2 ?_
            refine own_aload X98 hx hby at_205 (pc' := 207) rfl rfl rfl ?_
            refine own_iconst X98 hx hby at_207 (pc' := 208) rfl (z := 2) rfl ?_
            refine own_virt X98 hx hby hml hZ hown (ow_189 hw) (ow_136 hw) (notFace_of_selects (args := #[]) (mvT hZ (ow_138 hw))) (ow_138 hw) (ow_137 hw) (by decide) (cc := 0) (ss := 0) (own_chB (W := 0) hZ hw (i := 2) S_r (Nat.le_of_ble_eq_true rfl) S_cs P5 S_f rf (Nat.le_of_ble_eq_true rfl) rfl (by decide) (by decide)) rfl A_r (argsL := [(.int (2 : Int32))]) (rest := []) opd_14 rfl rfl (Nat.le_refl _) at_208 (pc' := 211) rfl rfl e98 (by decide) (by decide) ?_
            rintro v99 T99 h99 L99 X99 e99 ⟨hv99, hl99, hh99⟩
            rw [(show List.getD ([(own_me (p1 &&& (7 : Int32))), (own_pl ((p2.toUInt32 >>> ((3 : Int32) &&& 31).toUInt32).toInt32)), (own_me (p3 &&& (7 : Int32))), (own_pl (((pf.toUInt64 >>> ((16 : Int32) &&& 0x3f).toInt64.toUInt64).toInt64).toInt32))] : List Int32) 2 0 = (own_me (p3 &&& (7 : Int32))) from rfl)] at hv99
            subst hl99
            obtain rfl := hh99.symm
            obtain rfl := hv99
            have N99 := N98.app (Fr.nil n0)
            refine own_iloadN X99 hx hby at_211 (pc' := 212) rfl rfl ?_
            refine own_callM X99 hx hby hml hZ hown (ow_190 hw) (ow_191 hw) (ow_107 hw) (ow_192 hw) (by decide) (cc := 0) (ss := 0) (rm_out1 l Z a0 hw p3 h92 n0 (Nat.le_trans Z0 Ea93.1) h2_) 1 rfl rfl (by decide) (by decide) rfl (argsL := [(.int p3)]) (rest := [(.int (own_me (p3 &&& (7 : Int32))))]) opd_14 rfl rfl (Nat.le_refl _) at_212 (pc' := 215) rfl rfl e99 (by decide) (by decide) ?_
            rintro v100 T100 h100 L100 X100 e100 ⟨rfl, Nq100, rfl⟩
            have N100 := N99.app Nq100
            refine own_icmpN X100 hx hby at_215 (pc' := 218) rfl (teq rfl).2 ?_
            refine own_iconst X100 hx hby at_218 (pc' := 219) rfl (z := 1) rfl ?_
            refine own_goto X100 hx hby at_219 (by decide) (pc' := 223) (by decide) ?_
            refine own_istore X100 hx hby at_223 (pc' := 225) rfl (Ls' := #[.val (.int p1), .val (.int p2), .val (.int p3), .val (.long pf), .second, .val (.int p4), .val (.int q), .val (.ref b72), .val (.int (2 : Int32)), .val (.int (3 : Int32)), .val (.int (5 : Int32)), .val (.ref r), .val (.int ((9 : Int32) - (5 : Int32))), .val (.int (1 : Int32))]) rfl ?_
            refine own_iload X100 hx hby at_225 (pc' := 227) rfl rfl ?_
            refine own_iconst X100 hx hby at_227 (pc' := 228) rfl (z := 3) rfl ?_
            refine own_icmpN X100 hx hby at_228 (pc' := 231) rfl (tlt (by decide)).2.2.2 ?_
            refine own_iload X100 hx hby at_231 (pc' := 233) rfl rfl ?_
            refine own_ifN X100 hx hby at_233 (pc' := 236) rfl (feq (by decide)).1 ?_
            refine own_aload X100 hx hby at_236 (pc' := 238) rfl rfl rfl ?_
            refine own_iconst X100 hx hby at_238 (pc' := 239) rfl (z := 3) rfl ?_
            refine own_virt X100 hx hby hml hZ hown (ow_189 hw) (ow_136 hw) (notFace_of_selects (args := #[]) (mvT hZ (ow_138 hw))) (ow_138 hw) (ow_137 hw) (by decide) (cc := 0) (ss := 0) (own_chB (W := 0) hZ hw (i := 3) S_r (Nat.le_of_ble_eq_true rfl) S_cs P5 S_f rf (Nat.le_of_ble_eq_true rfl) rfl (by decide) (by decide)) rfl A_r (argsL := [(.int (3 : Int32))]) (rest := []) opd_14 rfl rfl (Nat.le_refl _) at_239 (pc' := 242) rfl rfl e100 (by decide) (by decide) ?_
            rintro v101 T101 h101 L101 X101 e101 ⟨hv101, hl101, hh101⟩
            rw [(show List.getD ([(own_me (p1 &&& (7 : Int32))), (own_pl ((p2.toUInt32 >>> ((3 : Int32) &&& 31).toUInt32).toInt32)), (own_me (p3 &&& (7 : Int32))), (own_pl (((pf.toUInt64 >>> ((16 : Int32) &&& 0x3f).toInt64.toUInt64).toInt64).toInt32))] : List Int32) 3 0 = (own_pl (((pf.toUInt64 >>> ((16 : Int32) &&& 0x3f).toInt64.toUInt64).toInt64).toInt32)) from rfl)] at hv101
            subst hl101
            obtain rfl := hh101.symm
            obtain rfl := hv101
            have N101 := N100.app (Fr.nil n0)
            refine own_aload X101 hx hby at_242 (pc' := 244) rfl rfl rfl ?_
            refine own_iload X101 hx hby at_244 (pc' := 246) rfl rfl ?_
            refine own_caloadV X101 hx hby hZ e101 V81_b72 ⟨by decide, by decide⟩ (v := (.int (own_pl (((pf.toUInt64 >>> ((16 : Int32) &&& 0x3f).toInt64.toUInt64).toInt64).toInt32)))) rfl at_246 (pc' := 247) rfl ?_
            refine own_icmpN X101 hx hby at_247 (pc' := 250) rfl (teq rfl).2 ?_
            refine own_iconst X101 hx hby at_250 (pc' := 251) rfl (z := 1) rfl ?_
            refine own_goto X101 hx hby at_251 (by decide) (pc' := 255) (by decide) ?_
            refine own_istore X101 hx hby at_255 (pc' := 257) rfl (Ls' := #[.val (.int p1), .val (.int p2), .val (.int p3), .val (.long pf), .second, .val (.int p4), .val (.int q), .val (.ref b72), .val (.int (2 : Int32)), .val (.int (3 : Int32)), .val (.int (5 : Int32)), .val (.ref r), .val (.int ((9 : Int32) - (5 : Int32))), .val (.int (1 : Int32))]) rfl ?_
            refine own_iload X101 hx hby at_257 (pc' := 259) rfl rfl ?_
            refine own_iconst X101 hx hby at_259 (pc' := 260) rfl (z := 4) rfl ?_
            refine own_icmpY X101 hx hby at_260 (by decide) (pc' := 291) (by decide) (flt (by decide)).2.2.2 ?_
            refine own_iload X101 hx hby at_291 (pc' := 293) rfl rfl ?_
            refine own_iconst X101 hx hby at_293 (pc' := 294) rfl (z := 5) rfl ?_
            refine own_icmpY X101 hx hby at_294 (by decide) (pc' := 325) (by decide) (flt (by decide)).2.2.2 ?_
            refine own_iload X101 hx hby at_325 (pc' := 327) rfl rfl ?_
            exact own_retNW X101 hx hby hZ (own_ew hw) e101 SN90 CH90 hlk hrt (by simp) at_327 (z' := (1 : Int32)) rfl ⟨rfl, N101⟩ (by decide) (by decide)
          · refine own_newP (aty := .char) X0 hx hby hZ (ow_104 hw) e0 at_60 (pc' := 62) rfl (by decide) (cap := 6) (by decide) (by decide) (by decide) (by decide) ?_
            intro T102 h102 b102 kA102 g102 X102 e102 E102 V_b102
            have le103 : h0.size ≤ b102 := Nat.le_of_eq g102.symm
            have n0_b102 : n0 ≤ b102 := Nat.le_trans Z0 (Nat.le_of_eq g102.symm)
            replace V_b102 : Arv Z h102 b102 kA102 .char (6 : Int32) [(.int (0 : Int32)), (.int (0 : Int32)), (.int (0 : Int32)), (.int (0 : Int32)), (.int (0 : Int32)), (.int (0 : Int32))] (.int (0 : Int32)) := V_b102.pad (pad_rep [] (.int (0 : Int32)) 6)
            refine own_astore X102 hx hby at_62 (pc' := 64) rfl rfl (Ls' := #[.val (.int p1), .val (.int p2), .val (.int p3), .val (.long pf), .second, .val (.int p4), .val (.int q), .val (.ref b102), .unset, .unset, .unset, .unset, .unset, .unset]) rfl ?_
            refine own_aload X102 hx hby at_64 (pc' := 66) rfl rfl rfl ?_
            refine own_iconst X102 hx hby at_66 (pc' := 67) rfl (z := 0) rfl ?_
            refine own_iloadN X102 hx hby at_67 (pc' := 68) rfl rfl ?_
            refine own_callM X102 hx hby hml hZ hown (ow_105 hw) (ow_106 hw) (ow_107 hw) (ow_108 hw) (by decide) (cc := 0) (ss := 0) (rm_put1_0 l Z a0 hw b102 p1 (.int (0 : Int32)) (.int (0 : Int32)) (.int (0 : Int32)) (.int (0 : Int32)) (.int (0 : Int32)) (.int (0 : Int32)) kA102 h102 n0 (Nat.le_trans Z0 E102.1) n0_b102 V_b102 h0_) 0 rfl rfl (by decide) (by decide) rfl (argsL := [(.ref b102), (.int (0 : Int32)), (.int p1)]) (rest := []) opd_20 rfl rfl (Nat.le_refl _) at_68 (pc' := 71) rfl rfl e102 (by decide) (by decide) ?_
            rintro v104 T104 h104 L104 X104 e104 ⟨rfl, Nq104, Kq104, Vq104⟩
            have N104 := N0.app Nq104
            have Ea105 := own_xk E102 Kq104 (allS le103 all0)
            refine own_istore X104 hx hby at_71 (pc' := 73) rfl (Ls' := #[.val (.int p1), .val (.int p2), .val (.int p3), .val (.long pf), .second, .val (.int p4), .val (.int q), .val (.ref b102), .val (.int (2 : Int32)), .unset, .unset, .unset, .unset, .unset]) rfl ?_
            refine own_aload X104 hx hby at_73 (pc' := 75) rfl rfl rfl ?_
            refine own_iload X104 hx hby at_75 (pc' := 77) rfl rfl ?_
            refine own_iloadN X104 hx hby at_77 (pc' := 78) rfl rfl ?_
            refine own_callM X104 hx hby hml hZ hown (ow_105 hw) (ow_106 hw) (ow_107 hw) (ow_108 hw) (by decide) (cc := 0) (ss := 0) (rm_put0_2 l Z a0 hw b102 p2 (.int (92 : Int32)) (.int (own_le (p1 &&& (7 : Int32)))) (.int (0 : Int32)) (.int (0 : Int32)) (.int (0 : Int32)) (.int (0 : Int32)) kA102 h104 n0 (Nat.le_trans Z0 Ea105.1) n0_b102 Vq104 h1_) 0 rfl rfl (by decide) (by decide) rfl (argsL := [(.ref b102), (.int (2 : Int32)), (.int p2)]) (rest := []) opd_20 rfl rfl (Nat.le_refl _) at_78 (pc' := 81) rfl rfl e104 (by decide) (by decide) ?_
            rintro v106 T106 h106 L106 X106 e106 ⟨rfl, Nq106, Kq106, Vq106⟩
            have N106 := N104.app Nq106
            have Ea107 := own_xk Ea105 Kq106 (allS le103 all0)
            refine own_istore X106 hx hby at_81 (pc' := 83) rfl (Ls' := #[.val (.int p1), .val (.int p2), .val (.int p3), .val (.long pf), .second, .val (.int p4), .val (.int q), .val (.ref b102), .val (.int (2 : Int32)), .val (.int (3 : Int32)), .unset, .unset, .unset, .unset]) rfl ?_
            refine own_aload X106 hx hby at_83 (pc' := 85) rfl rfl rfl ?_
            refine own_iload X106 hx hby at_85 (pc' := 87) rfl rfl ?_
            refine own_iloadN X106 hx hby at_87 (pc' := 88) rfl rfl ?_
            refine own_callM X106 hx hby hml hZ hown (ow_105 hw) (ow_106 hw) (ow_107 hw) (ow_108 hw) (by decide) (cc := 0) (ss := 0) (rm_put0_3 l Z a0 hw b102 p3 (.int (92 : Int32)) (.int (own_le (p1 &&& (7 : Int32)))) (.int (own_pl ((p2.toUInt32 >>> ((3 : Int32) &&& 31).toUInt32).toInt32))) (.int (0 : Int32)) (.int (0 : Int32)) (.int (0 : Int32)) kA102 h106 n0 (Nat.le_trans Z0 Ea107.1) n0_b102 Vq106 h2_) 0 rfl rfl (by decide) (by decide) rfl (argsL := [(.ref b102), (.int (3 : Int32)), (.int p3)]) (rest := []) opd_20 rfl rfl (Nat.le_refl _) at_88 (pc' := 91) rfl rfl e106 (by decide) (by decide) ?_
            rintro v108 T108 h108 L108 X108 e108 ⟨rfl, Nq108, Kq108, Vq108⟩
            have N108 := N106.app Nq108
            have Ea109 := own_xk Ea107 Kq108 (allS le103 all0)
            refine own_istore X108 hx hby at_91 (pc' := 93) rfl (Ls' := #[.val (.int p1), .val (.int p2), .val (.int p3), .val (.long pf), .second, .val (.int p4), .val (.int q), .val (.ref b102), .val (.int (2 : Int32)), .val (.int (3 : Int32)), .val (.int (4 : Int32)), .unset, .unset, .unset]) rfl ?_
            refine own_iload X108 hx hby at_93 (pc' := 95) rfl rfl ?_
            refine own_iconst X108 hx hby at_95 (pc' := 96) rfl (z := 3) rfl ?_
            refine own_icmpY X108 hx hby at_96 (by decide) (pc' := 108) (by decide) (tlt (by decide)).2.2.1 ?_
            refine own_iload X108 hx hby at_108 (pc' := 110) rfl rfl ?_
            refine own_iconst X108 hx hby at_110 (pc' := 111) rfl (z := 4) rfl ?_
            refine own_icmpN X108 hx hby at_111 (pc' := 114) rfl (flt (by decide)).2.2.1 ?_
            refine own_aload X108 hx hby at_114 (pc' := 116) rfl rfl rfl ?_
            refine own_iconst X108 hx hby at_116 (pc' := 117) rfl (z := 4) rfl ?_
            refine own_lloadN X108 hx hby at_117 (pc' := 118) rfl rfl ?_
            refine own_bipush X108 hx hby at_118 (pc' := 120) rfl (z := 8) rfl ?_
            refine own_lushr X108 hx hby at_120 (pc' := 121) rfl ?_
            refine own_l2i X108 hx hby at_121 (pc' := 122) rfl ?_
            refine own_callM X108 hx hby hml hZ hown (ow_115 hw) (ow_116 hw) (ow_107 hw) (ow_117 hw) (by decide) (cc := 0) (ss := 0) (rm_plain l Z a0 hw (((pf.toUInt64 >>> ((8 : Int32) &&& 0x3f).toInt64.toUInt64).toInt64).toInt32) h108 n0 (Nat.le_trans Z0 Ea109.1)) 2 rfl rfl (by decide) (by decide) rfl (argsL := [(.int (((pf.toUInt64 >>> ((8 : Int32) &&& 0x3f).toInt64.toUInt64).toInt64).toInt32))]) (rest := [(.int (4 : Int32)), (.ref b102)]) opd_14 rfl rfl (Nat.le_refl _) at_122 (pc' := 125) rfl rfl e108 (by decide) (by decide) ?_
            rintro v110 T110 h110 L110 X110 e110 ⟨_, rfl, rfl, Nq110, rfl⟩
            have N110 := N108.app Nq110
            refine own_stC X110 hx hby hZ e110 Vq108 ⟨by decide, by decide⟩ 4 rfl (Nat.le_of_ble_eq_true rfl) at_125 (pc' := 126) rfl ?_
            intro T111 h111 X111 e111 W111 V111_b102
            replace V111_b102 : Arv Z h111 b102 kA102 .char (6 : Int32) [(.int (92 : Int32)), (.int (own_le (p1 &&& (7 : Int32)))), (.int (own_pl ((p2.toUInt32 >>> ((3 : Int32) &&& 31).toUInt32).toInt32))), (.int (own_pl ((p3.toUInt32 >>> ((3 : Int32) &&& 31).toUInt32).toInt32))), (.int (nar .char (own_pl (((pf.toUInt64 >>> ((8 : Int32) &&& 0x3f).toInt64.toUInt64).toInt64).toInt32)))), (.int (0 : Int32))] (.int (0 : Int32)) := V111_b102
            have Ea112 := own_xw Ea109 W111 le103
            have N111 := own_fr1 (sl := ((4 : Int32)).toNatClampNeg) N110 n0_b102
            rw [own_pl_n] at V111_b102
            refine own_iload X111 hx hby at_126 (pc' := 128) rfl rfl ?_
            refine own_iconst X111 hx hby at_128 (pc' := 129) rfl (z := 5) rfl ?_
            refine own_icmpN X111 hx hby at_129 (pc' := 132) rfl (flt (by decide)).2.2.1 ?_
            refine own_aload X111 hx hby at_132 (pc' := 134) rfl rfl rfl ?_
            refine own_iconst X111 hx hby at_134 (pc' := 135) rfl (z := 5) rfl ?_
            refine own_lloadN X111 hx hby at_135 (pc' := 136) rfl rfl ?_
            refine own_bipush X111 hx hby at_136 (pc' := 138) rfl (z := 16) rfl ?_
            refine own_lushr X111 hx hby at_138 (pc' := 139) rfl ?_
            refine own_l2i X111 hx hby at_139 (pc' := 140) rfl ?_
            refine own_callM X111 hx hby hml hZ hown (ow_115 hw) (ow_116 hw) (ow_107 hw) (ow_117 hw) (by decide) (cc := 0) (ss := 0) (rm_plain l Z a0 hw (((pf.toUInt64 >>> ((16 : Int32) &&& 0x3f).toInt64.toUInt64).toInt64).toInt32) h111 n0 (Nat.le_trans Z0 Ea112.1)) 2 rfl rfl (by decide) (by decide) rfl (argsL := [(.int (((pf.toUInt64 >>> ((16 : Int32) &&& 0x3f).toInt64.toUInt64).toInt64).toInt32))]) (rest := [(.int (5 : Int32)), (.ref b102)]) opd_14 rfl rfl (Nat.le_refl _) at_140 (pc' := 143) rfl rfl e111 (by decide) (by decide) ?_
            rintro v113 T113 h113 L113 X113 e113 ⟨_, rfl, rfl, Nq113, rfl⟩
            have N113 := N111.app Nq113
            refine own_stC X113 hx hby hZ e113 V111_b102 ⟨by decide, by decide⟩ 5 rfl (Nat.le_of_ble_eq_true rfl) at_143 (pc' := 144) rfl ?_
            intro T114 h114 X114 e114 W114 V114_b102
            replace V114_b102 : Arv Z h114 b102 kA102 .char (6 : Int32) [(.int (92 : Int32)), (.int (own_le (p1 &&& (7 : Int32)))), (.int (own_pl ((p2.toUInt32 >>> ((3 : Int32) &&& 31).toUInt32).toInt32))), (.int (own_pl ((p3.toUInt32 >>> ((3 : Int32) &&& 31).toUInt32).toInt32))), (.int (own_pl (((pf.toUInt64 >>> ((8 : Int32) &&& 0x3f).toInt64.toUInt64).toInt64).toInt32))), (.int (nar .char (own_pl (((pf.toUInt64 >>> ((16 : Int32) &&& 0x3f).toInt64.toUInt64).toInt64).toInt32))))] (.int (0 : Int32)) := V114_b102
            have Ea115 := own_xw Ea112 W114 le103
            have N114 := own_fr1 (sl := ((5 : Int32)).toNatClampNeg) N113 n0_b102
            rw [own_pl_n] at V114_b102
            refine own_newO X114 hx hby hZ hown (ow_118 hw) (ow_2 hw) (ow_1 hw) e114 at_144 (pc' := 147) rfl (by decide) (by decide) ?_
            intro T116 h116 b116 g116 X116 e116 E116 AX116 D116
            have le117 : h0.size ≤ b116 := Nat.le_trans Ea115.1 (Nat.le_of_eq g116.symm)
            have le118 : h114.size ≤ b116 := Nat.le_of_eq g116.symm
            have n0_b116 : n0 ≤ b116 := Nat.le_trans (Nat.le_trans Z0 Ea115.1) (Nat.le_of_eq g116.symm)
            have Ea119 := own_xt Ea115 E116
            have F_value_b116 : Fld Z h116 b116 "java/lang/String" "value" "[B" .null := D116 (Or.inr (ow_4 hw)) (ty := (.array .byte)) (by decide)
            have F_coder_b116 : Fld Z h116 b116 "java/lang/String" "coder" "B" (.int (0 : Int32)) := D116 (Or.inr (ow_5 hw)) (ty := .byte) (by decide)
            refine own_dup X116 hx hby at_147 (pc' := 148) rfl rfl ?_
            refine own_aload X116 hx hby at_148 (pc' := 150) rfl rfl rfl ?_
            have hp2 : ∀ c ∈ ([(92 : Int32), (own_le (p1 &&& (7 : Int32))), (own_pl ((p2.toUInt32 >>> ((3 : Int32) &&& 31).toUInt32).toInt32)), (own_pl ((p3.toUInt32 >>> ((3 : Int32) &&& 31).toUInt32).toInt32)), (own_pl (((pf.toUInt64 >>> ((8 : Int32) &&& 0x3f).toInt64.toUInt64).toInt64).toInt32)), (own_pl (((pf.toUInt64 >>> ((16 : Int32) &&& 0x3f).toInt64.toUInt64).toInt64).toInt32))] : List Int32), ¬ c < 0 ∧ ¬ (255 : Int32) < c := (own_allC ⟨by decide, by decide⟩ (own_allC (own_le_b _) (own_allC (own_pl_b _) (own_allC (own_pl_b _) (own_allC (own_pl_b _) (own_allC (own_pl_b _) own_all0))))))
            refine own_spec X116 hx hby hml hZ hown rfl (ow_119 hw) (ow_120 hw) (ow_121 hw) (by decide) (cc := 1) (ss := 6) (StrChars.Road.backV (W := 1) hZ (own_hws hw) (kI := 4) (ow_2 hw) (cs := [(92 : Int32), (own_le (p1 &&& (7 : Int32))), (own_pl ((p2.toUInt32 >>> ((3 : Int32) &&& 31).toUInt32).toInt32)), (own_pl ((p3.toUInt32 >>> ((3 : Int32) &&& 31).toUInt32).toInt32)), (own_pl (((pf.toUInt64 >>> ((8 : Int32) &&& 0x3f).toInt64.toUInt64).toInt64).toInt32)), (own_pl (((pf.toUInt64 >>> ((16 : Int32) &&& 0x3f).toInt64.toUInt64).toInt64).toInt32))]) (bs := ([(92 : Int32), (own_le (p1 &&& (7 : Int32))), (own_pl ((p2.toUInt32 >>> ((3 : Int32) &&& 31).toUInt32).toInt32)), (own_pl ((p3.toUInt32 >>> ((3 : Int32) &&& 31).toUInt32).toInt32)), (own_pl (((pf.toUInt64 >>> ((8 : Int32) &&& 0x3f).toInt64.toUInt64).toInt64).toInt32)), (own_pl (((pf.toUInt64 >>> ((16 : Int32) &&& 0x3f).toInt64.toUInt64).toInt64).toInt32))] : List Int32).map (fun c => c.toInt8.toInt32)) (n := 6) n0_b116 (Nat.le_trans Z0 Ea119.1) AX116 F_value_b116 F_coder_b116 (V114_b102.ext E116) (S_cs.ext Ea119) P5 rfl rfl (by decide) (by decide) hp2 rfl (by decide) (by decide)) rfl (argsL := [(.ref b102)]) (rest := [(.ref b116)]) opd_21 rfl rfl (Nat.le_refl _) at_150 (pc' := 153) rfl rfl e116 (by decide) (by decide) ?_
            rintro v120 T120 h120 L120 X120 e120 ⟨rfl, Nq120, Kq120, Aq120, Cq120, t120, kb120, _, _, _, Vq120, Bq120⟩
            have N120 := N114.app Nq120
            have Ea121 := own_xk Ea119 Kq120 (allS le117 all0)
            have Ea122 := own_xk E116 Kq120 (allS le118 all0)
            replace SN := SN.ext Ea121
            replace CH := CH.ext Ea121
            replace S_cs := S_cs.ext Ea121
            replace S_f := S_f.ext Ea121
            replace V114_b102 := V114_b102.ext Ea122
            have S_b116 : own_Str Z h120 b116 [(92 : Int32), (own_le (p1 &&& (7 : Int32))), (own_pl ((p2.toUInt32 >>> ((3 : Int32) &&& 31).toUInt32).toInt32)), (own_pl ((p3.toUInt32 >>> ((3 : Int32) &&& 31).toUInt32).toInt32)), (own_pl (((pf.toUInt64 >>> ((8 : Int32) &&& 0x3f).toInt64.toUInt64).toInt64).toInt32)), (own_pl (((pf.toUInt64 >>> ((16 : Int32) &&& 0x3f).toInt64.toUInt64).toInt64).toInt32))] := ⟨Aq120, Cq120, hp2, t120, kb120, Vq120, Bq120⟩
            have A_b116 := S_b116.exa
            refine own_ldcO X120 hx hby hZ hown SN CH (own_ew hw) (own_ws hw) (ow_8 hw) e120 at_153 (pc' := 155) rfl (n := 40) (by decide) (by decide) (by decide) (by decide) ?_
            intro T123 vm123 h123 q123 X123 e123 hZ hown SN123 CH123 E123
            have Ea124 := own_xt Ea121 E123
            replace S_cs := S_cs.ext E123
            replace S_f := S_f.ext E123
            replace V114_b102 := V114_b102.ext E123
            replace S_b116 := S_b116.ext E123
            replace A_b116 := A_b116.ext E123
            refine own_callM X123 hx hby hml hZ hown (ow_9 hw) (ow_10 hw) (ow_11 hw) (ow_12 hw) (by decide) (cc := 4) (ss := 20) (rm_une l Z a0 hw b116 q123 [(92 : Int32), (own_le (p1 &&& (7 : Int32))), (own_pl ((p2.toUInt32 >>> ((3 : Int32) &&& 31).toUInt32).toInt32)), (own_pl ((p3.toUInt32 >>> ((3 : Int32) &&& 31).toUInt32).toInt32)), (own_pl (((pf.toUInt64 >>> ((8 : Int32) &&& 0x3f).toInt64.toUInt64).toInt64).toInt32)), (own_pl (((pf.toUInt64 >>> ((16 : Int32) &&& 0x3f).toInt64.toUInt64).toInt64).toInt32))] [(own_me (p1 &&& (7 : Int32))), (own_pl ((p2.toUInt32 >>> ((3 : Int32) &&& 31).toUInt32).toInt32)), (own_pl ((p3.toUInt32 >>> ((3 : Int32) &&& 31).toUInt32).toInt32)), (own_pl (((pf.toUInt64 >>> ((8 : Int32) &&& 0x3f).toInt64.toUInt64).toInt64).toInt32)), (own_pl (((pf.toUInt64 >>> ((16 : Int32) &&& 0x3f).toInt64.toUInt64).toInt64).toInt32))] [((own_le (p1 &&& (7 : Int32))), some (own_me (p1 &&& (7 : Int32)))), ((own_pl ((p2.toUInt32 >>> ((3 : Int32) &&& 31).toUInt32).toInt32)), none), ((own_pl ((p3.toUInt32 >>> ((3 : Int32) &&& 31).toUInt32).toInt32)), none), ((own_pl (((pf.toUInt64 >>> ((8 : Int32) &&& 0x3f).toInt64.toUInt64).toInt64).toInt32)), none), ((own_pl (((pf.toUInt64 >>> ((16 : Int32) &&& 0x3f).toInt64.toUInt64).toInt64).toInt32)), none)] G1 fm h123 n0 (Nat.le_trans Z0 Ea124.1) S_cs P5 S_f rf S_b116 (Nat.le_of_ble_eq_true rfl) (own_allC (own_oke h0_) (own_allC (own_okp _) (own_allC (own_okp _) (own_allC (own_okp _) (own_allC (own_okp _) own_all0))))) rfl rfl) 0 rfl rfl (by decide) (by decide) rfl (argsL := [(.ref b116), (.ref q123)]) (rest := []) opd_17 rfl rfl (Nat.le_refl _) at_155 (pc' := 158) rfl rfl e123 (by decide) (by decide) ?_
            rintro v125 T125 h125 L125 X125 e125 ⟨r, rfl, Eq125, Nq125, S_r⟩
            have N125 := N120.app Nq125
            have Ea126 := own_xt Ea124 Eq125
            replace S_cs := S_cs.ext Eq125
            replace S_f := S_f.ext Eq125
            replace V114_b102 := V114_b102.ext Eq125
            replace S_b116 := S_b116.ext Eq125
            replace A_b116 := A_b116.ext Eq125
            replace SN123 := SN123.ext Eq125
            replace CH123 := CH123.ext Eq125
            have A_r := S_r.exa
            refine own_astore X125 hx hby at_158 (pc' := 160) rfl rfl (Ls' := #[.val (.int p1), .val (.int p2), .val (.int p3), .val (.long pf), .second, .val (.int p4), .val (.int q), .val (.ref b102), .val (.int (2 : Int32)), .val (.int (3 : Int32)), .val (.int (4 : Int32)), .val (.ref r), .unset, .unset]) rfl ?_
            refine own_bipush X125 hx hby at_160 (pc' := 162) rfl (z := 9) rfl ?_
            refine own_iload X125 hx hby at_162 (pc' := 164) rfl rfl ?_
            refine own_isub X125 hx hby at_164 (pc' := 165) rfl ?_
            refine own_istore X125 hx hby at_165 (pc' := 167) rfl (Ls' := #[.val (.int p1), .val (.int p2), .val (.int p3), .val (.long pf), .second, .val (.int p4), .val (.int q), .val (.ref b102), .val (.int (2 : Int32)), .val (.int (3 : Int32)), .val (.int (4 : Int32)), .val (.ref r), .val (.int ((9 : Int32) - (4 : Int32))), .unset]) rfl ?_
            refine own_aload X125 hx hby at_167 (pc' := 169) rfl rfl rfl ?_
            refine own_virt X125 hx hby hml hZ hown (ow_188 hw) (ow_17 hw) (notFace_of_selects (args := #[]) (mvT hZ (ow_19 hw))) (ow_19 hw) (ow_18 hw) (by decide) (cc := 0) (ss := 0) (own_lenB (W := 0) hZ hw S_r (Nat.le_of_ble_eq_true rfl) S_cs P5 (by decide) (by decide)) rfl A_r (argsL := []) (rest := []) opd_3 rfl rfl (Nat.le_refl _) at_169 (pc' := 172) rfl rfl e125 (by decide) (by decide) ?_
            rintro v127 T127 h127 L127 X127 e127 ⟨hv127, hl127, hh127⟩
            subst hl127
            obtain rfl := hh127.symm
            obtain rfl := hv127
            have N127 := N125.app (Fr.nil n0)
            refine own_iload X127 hx hby at_172 (pc' := 174) rfl rfl ?_
            refine own_icmpY X127 hx hby at_174 (by decide) (pc' := 179) (by decide) (teq (show Int32.ofNat 5 = (9 : Int32) - (4 : Int32) from by decide)).1 ?_
            refine own_aload X127 hx hby at_179 (pc' := 181) rfl rfl rfl ?_
            refine own_iconst X127 hx hby at_181 (pc' := 182) rfl (z := 0) rfl ?_
            refine own_virt X127 hx hby hml hZ hown (ow_189 hw) (ow_136 hw) (notFace_of_selects (args := #[]) (mvT hZ (ow_138 hw))) (ow_138 hw) (ow_137 hw) (by decide) (cc := 0) (ss := 0) (own_chB (W := 0) hZ hw (i := 0) S_r (Nat.le_of_ble_eq_true rfl) S_cs P5 S_f rf (Nat.le_of_ble_eq_true rfl) rfl (by decide) (by decide)) rfl A_r (argsL := [(.int (0 : Int32))]) (rest := []) opd_14 rfl rfl (Nat.le_refl _) at_182 (pc' := 185) rfl rfl e127 (by decide) (by decide) ?_
            rintro v128 T128 h128 L128 X128 e128 ⟨hv128, hl128, hh128⟩
            rw [(show List.getD ([(own_me (p1 &&& (7 : Int32))), (own_pl ((p2.toUInt32 >>> ((3 : Int32) &&& 31).toUInt32).toInt32)), (own_pl ((p3.toUInt32 >>> ((3 : Int32) &&& 31).toUInt32).toInt32)), (own_pl (((pf.toUInt64 >>> ((8 : Int32) &&& 0x3f).toInt64.toUInt64).toInt64).toInt32)), (own_pl (((pf.toUInt64 >>> ((16 : Int32) &&& 0x3f).toInt64.toUInt64).toInt64).toInt32))] : List Int32) 0 0 = (own_me (p1 &&& (7 : Int32))) from rfl)] at hv128
            subst hl128
            obtain rfl := hh128.symm
            obtain rfl := hv128
            have N128 := N127.app (Fr.nil n0)
            refine own_iloadN X128 hx hby at_185 (pc' := 186) rfl rfl ?_
            refine own_callM X128 hx hby hml hZ hown (ow_190 hw) (ow_191 hw) (ow_107 hw) (ow_192 hw) (by decide) (cc := 0) (ss := 0) (rm_out1 l Z a0 hw p1 h125 n0 (Nat.le_trans Z0 Ea126.1) h0_) 1 rfl rfl (by decide) (by decide) rfl (argsL := [(.int p1)]) (rest := [(.int (own_me (p1 &&& (7 : Int32))))]) opd_14 rfl rfl (Nat.le_refl _) at_186 (pc' := 189) rfl rfl e128 (by decide) (by decide) ?_
            rintro v129 T129 h129 L129 X129 e129 ⟨rfl, Nq129, rfl⟩
            have N129 := N128.app Nq129
            refine own_icmpN X129 hx hby at_189 (pc' := 192) rfl (teq rfl).2 ?_
            refine own_aload X129 hx hby at_192 (pc' := 194) rfl rfl rfl ?_
            refine own_iconst X129 hx hby at_194 (pc' := 195) rfl (z := 1) rfl ?_
            refine own_virt X129 hx hby hml hZ hown (ow_189 hw) (ow_136 hw) (notFace_of_selects (args := #[]) (mvT hZ (ow_138 hw))) (ow_138 hw) (ow_137 hw) (by decide) (cc := 0) (ss := 0) (own_chB (W := 0) hZ hw (i := 1) S_r (Nat.le_of_ble_eq_true rfl) S_cs P5 S_f rf (Nat.le_of_ble_eq_true rfl) rfl (by decide) (by decide)) rfl A_r (argsL := [(.int (1 : Int32))]) (rest := []) opd_14 rfl rfl (Nat.le_refl _) at_195 (pc' := 198) rfl rfl e129 (by decide) (by decide) ?_
            rintro v130 T130 h130 L130 X130 e130 ⟨hv130, hl130, hh130⟩
            rw [(show List.getD ([(own_me (p1 &&& (7 : Int32))), (own_pl ((p2.toUInt32 >>> ((3 : Int32) &&& 31).toUInt32).toInt32)), (own_pl ((p3.toUInt32 >>> ((3 : Int32) &&& 31).toUInt32).toInt32)), (own_pl (((pf.toUInt64 >>> ((8 : Int32) &&& 0x3f).toInt64.toUInt64).toInt64).toInt32)), (own_pl (((pf.toUInt64 >>> ((16 : Int32) &&& 0x3f).toInt64.toUInt64).toInt64).toInt32))] : List Int32) 1 0 = (own_pl ((p2.toUInt32 >>> ((3 : Int32) &&& 31).toUInt32).toInt32)) from rfl)] at hv130
            subst hl130
            obtain rfl := hh130.symm
            obtain rfl := hv130
            have N130 := N129.app (Fr.nil n0)
            refine own_iloadN X130 hx hby at_198 (pc' := 199) rfl rfl ?_
            refine own_callM X130 hx hby hml hZ hown (ow_190 hw) (ow_191 hw) (ow_107 hw) (ow_192 hw) (by decide) (cc := 0) (ss := 0) (rm_out0 l Z a0 hw p2 h125 n0 (Nat.le_trans Z0 Ea126.1) h1_) 1 rfl rfl (by decide) (by decide) rfl (argsL := [(.int p2)]) (rest := [(.int (own_pl ((p2.toUInt32 >>> ((3 : Int32) &&& 31).toUInt32).toInt32)))]) opd_14 rfl rfl (Nat.le_refl _) at_199 (pc' := 202) rfl rfl e130 (by decide) (by decide) ?_
            rintro v131 T131 h131 L131 X131 e131 ⟨rfl, Nq131, rfl⟩
            have N131 := N130.app Nq131
            refine own_icmpN X131 hx hby at_202 (pc' := 205) rfl (teq rfl).2 ?_
            refine own_aload X131 hx hby at_205 (pc' := 207) rfl rfl rfl ?_
            refine own_iconst X131 hx hby at_207 (pc' := 208) rfl (z := 2) rfl ?_
            refine own_virt X131 hx hby hml hZ hown (ow_189 hw) (ow_136 hw) (notFace_of_selects (args := #[]) (mvT hZ (ow_138 hw))) (ow_138 hw) (ow_137 hw) (by decide) (cc := 0) (ss := 0) (own_chB (W := 0) hZ hw (i := 2) S_r (Nat.le_of_ble_eq_true rfl) S_cs P5 S_f rf (Nat.le_of_ble_eq_true rfl) rfl (by decide) (by decide)) rfl A_r (argsL := [(.int (2 : Int32))]) (rest := []) opd_14 rfl rfl (Nat.le_refl _) at_208 (pc' := 211) rfl rfl e131 (by decide) (by decide) ?_
            rintro v132 T132 h132 L132 X132 e132 ⟨hv132, hl132, hh132⟩
            rw [(show List.getD ([(own_me (p1 &&& (7 : Int32))), (own_pl ((p2.toUInt32 >>> ((3 : Int32) &&& 31).toUInt32).toInt32)), (own_pl ((p3.toUInt32 >>> ((3 : Int32) &&& 31).toUInt32).toInt32)), (own_pl (((pf.toUInt64 >>> ((8 : Int32) &&& 0x3f).toInt64.toUInt64).toInt64).toInt32)), (own_pl (((pf.toUInt64 >>> ((16 : Int32) &&& 0x3f).toInt64.toUInt64).toInt64).toInt32))] : List Int32) 2 0 = (own_pl ((p3.toUInt32 >>> ((3 : Int32) &&& 31).toUInt32).toInt32)) from rfl)] at hv132
            subst hl132
            obtain rfl := hh132.symm
            obtain rfl := hv132
            have N132 := N131.app (Fr.nil n0)
            refine own_iloadN X132 hx hby at_211 (pc' := 212) rfl rfl ?_
            refine own_callM X132 hx hby hml hZ hown (ow_190 hw) (ow_191 hw) (ow_107 hw) (ow_192 hw) (by decide) (cc := 0) (ss := 0) (rm_out0 l Z a0 hw p3 h125 n0 (Nat.le_trans Z0 Ea126.1) h2_) 1 rfl rfl (by decide) (by decide) rfl (argsL := [(.int p3)]) (rest := [(.int (own_pl ((p3.toUInt32 >>> ((3 : Int32) &&& 31).toUInt32).toInt32)))]) opd_14 rfl rfl (Nat.le_refl _) at_212 (pc' := 215) rfl rfl e132 (by decide) (by decide) ?_
            rintro v133 T133 h133 L133 X133 e133 ⟨rfl, Nq133, rfl⟩
            have N133 := N132.app Nq133
            refine own_icmpN X133 hx hby at_215 (pc' := 218) rfl (teq rfl).2 ?_
            refine own_iconst X133 hx hby at_218 (pc' := 219) rfl (z := 1) rfl ?_
            refine own_goto X133 hx hby at_219 (by decide) (pc' := 223) (by decide) ?_
            refine own_istore X133 hx hby at_223 (pc' := 225) rfl (Ls' := #[.val (.int p1), .val (.int p2), .val (.int p3), .val (.long pf), .second, .val (.int p4), .val (.int q), .val (.ref b102), .val (.int (2 : Int32)), .val (.int (3 : Int32)), .val (.int (4 : Int32)), .val (.ref r), .val (.int ((9 : Int32) - (4 : Int32))), .val (.int (1 : Int32))]) rfl ?_
            refine own_iload X133 hx hby at_225 (pc' := 227) rfl rfl ?_
            refine own_iconst X133 hx hby at_227 (pc' := 228) rfl (z := 3) rfl ?_
            refine own_icmpN X133 hx hby at_228 (pc' := 231) rfl (tlt (by decide)).2.2.2 ?_
            refine own_iload X133 hx hby at_231 (pc' := 233) rfl rfl ?_
            refine own_ifN X133 hx hby at_233 (pc' := 236) rfl (feq (by decide)).1 ?_
            refine own_aload X133 hx hby at_236 (pc' := 238) rfl rfl rfl ?_
            refine own_iconst X133 hx hby at_238 (pc' := 239) rfl (z := 3) rfl ?_
            refine own_virt X133 hx hby hml hZ hown (ow_189 hw) (ow_136 hw) (notFace_of_selects (args := #[]) (mvT hZ (ow_138 hw))) (ow_138 hw) (ow_137 hw) (by decide) (cc := 0) (ss := 0) (own_chB (W := 0) hZ hw (i := 3) S_r (Nat.le_of_ble_eq_true rfl) S_cs P5 S_f rf (Nat.le_of_ble_eq_true rfl) rfl (by decide) (by decide)) rfl A_r (argsL := [(.int (3 : Int32))]) (rest := []) opd_14 rfl rfl (Nat.le_refl _) at_239 (pc' := 242) rfl rfl e133 (by decide) (by decide) ?_
            rintro v134 T134 h134 L134 X134 e134 ⟨hv134, hl134, hh134⟩
            rw [(show List.getD ([(own_me (p1 &&& (7 : Int32))), (own_pl ((p2.toUInt32 >>> ((3 : Int32) &&& 31).toUInt32).toInt32)), (own_pl ((p3.toUInt32 >>> ((3 : Int32) &&& 31).toUInt32).toInt32)), (own_pl (((pf.toUInt64 >>> ((8 : Int32) &&& 0x3f).toInt64.toUInt64).toInt64).toInt32)), (own_pl (((pf.toUInt64 >>> ((16 : Int32) &&& 0x3f).toInt64.toUInt64).toInt64).toInt32))] : List Int32) 3 0 = (own_pl (((pf.toUInt64 >>> ((8 : Int32) &&& 0x3f).toInt64.toUInt64).toInt64).toInt32)) from rfl)] at hv134
            subst hl134
            obtain rfl := hh134.symm
            obtain rfl := hv134
            have N134 := N133.app (Fr.nil n0)
            refine own_aload X134 hx hby at_242 (pc' := 244) rfl rfl rfl ?_
            refine own_iload X134 hx hby at_244 (pc' := 246) rfl rfl ?_
            refine own_caloadV X134 hx hby hZ e134 V114_b102 ⟨by decide, by decide⟩ (v := (.int (own_pl (((pf.toUInt64 >>> ((8 : Int32) &&& 0x3f).toInt64.toUInt64).toInt64).toInt32)))) rfl at_246 (pc' := 247) rfl ?_
            refine own_icmpN X134 hx hby at_247 (pc' := 250) rfl (teq rfl).2 ?_
            refine own_iconst X134 hx hby at_250 (pc' := 251) rfl (z := 1) rfl ?_
            refine own_goto X134 hx hby at_251 (by decide) (pc' := 255) (by decide) ?_
            refine own_istore X134 hx hby at_255 (pc' := 257) rfl (Ls' := #[.val (.int p1), .val (.int p2), .val (.int p3), .val (.long pf), .second, .val (.int p4), .val (.int q), .val (.ref b102), .val (.int (2 : Int32)), .val (.int (3 : Int32)), .val (.int (4 : Int32)), .val (.ref r), .val (.int ((9 : Int32) - (4 : Int32))), .val (.int (1 : Int32))]) rfl ?_
            refine own_iload X134 hx hby at_257 (pc' := 259) rfl rfl ?_
            refine own_iconst X134 hx hby at_259 (pc' := 260) rfl (z := 4) rfl ?_
            refine own_icmpN X134 hx hby at_260 (pc' := 263) rfl (tlt (by decide)).2.2.2 ?_
            refine own_iload X134 hx hby at_263 (pc' := 265) rfl rfl ?_
            refine own_ifN X134 hx hby at_265 (pc' := 268) rfl (feq (by decide)).1 ?_
            refine own_aload X134 hx hby at_268 (pc' := 270) rfl rfl rfl ?_
            refine own_iconst X134 hx hby at_270 (pc' := 271) rfl (z := 4) rfl ?_
            refine own_virt X134 hx hby hml hZ hown (ow_189 hw) (ow_136 hw) (notFace_of_selects (args := #[]) (mvT hZ (ow_138 hw))) (ow_138 hw) (ow_137 hw) (by decide) (cc := 0) (ss := 0) (own_chB (W := 0) hZ hw (i := 4) S_r (Nat.le_of_ble_eq_true rfl) S_cs P5 S_f rf (Nat.le_of_ble_eq_true rfl) rfl (by decide) (by decide)) rfl A_r (argsL := [(.int (4 : Int32))]) (rest := []) opd_14 rfl rfl (Nat.le_refl _) at_271 (pc' := 274) rfl rfl e134 (by decide) (by decide) ?_
            rintro v135 T135 h135 L135 X135 e135 ⟨hv135, hl135, hh135⟩
            rw [(show List.getD ([(own_me (p1 &&& (7 : Int32))), (own_pl ((p2.toUInt32 >>> ((3 : Int32) &&& 31).toUInt32).toInt32)), (own_pl ((p3.toUInt32 >>> ((3 : Int32) &&& 31).toUInt32).toInt32)), (own_pl (((pf.toUInt64 >>> ((8 : Int32) &&& 0x3f).toInt64.toUInt64).toInt64).toInt32)), (own_pl (((pf.toUInt64 >>> ((16 : Int32) &&& 0x3f).toInt64.toUInt64).toInt64).toInt32))] : List Int32) 4 0 = (own_pl (((pf.toUInt64 >>> ((16 : Int32) &&& 0x3f).toInt64.toUInt64).toInt64).toInt32)) from rfl)] at hv135
            subst hl135
            obtain rfl := hh135.symm
            obtain rfl := hv135
            have N135 := N134.app (Fr.nil n0)
            refine own_aload X135 hx hby at_274 (pc' := 276) rfl rfl rfl ?_
            refine own_iload X135 hx hby at_276 (pc' := 278) rfl rfl ?_
            refine own_iconst X135 hx hby at_278 (pc' := 279) rfl (z := 1) rfl ?_
            refine own_iadd X135 hx hby at_279 (pc' := 280) rfl ?_
            refine own_caloadV X135 hx hby hZ e135 V114_b102 ⟨by decide, by decide⟩ (v := (.int (own_pl (((pf.toUInt64 >>> ((16 : Int32) &&& 0x3f).toInt64.toUInt64).toInt64).toInt32)))) rfl at_280 (pc' := 281) rfl ?_
            refine own_icmpN X135 hx hby at_281 (pc' := 284) rfl (teq rfl).2 ?_
            refine own_iconst X135 hx hby at_284 (pc' := 285) rfl (z := 1) rfl ?_
            refine own_goto X135 hx hby at_285 (by decide) (pc' := 289) (by decide) ?_
            refine own_istore X135 hx hby at_289 (pc' := 291) rfl (Ls' := #[.val (.int p1), .val (.int p2), .val (.int p3), .val (.long pf), .second, .val (.int p4), .val (.int q), .val (.ref b102), .val (.int (2 : Int32)), .val (.int (3 : Int32)), .val (.int (4 : Int32)), .val (.ref r), .val (.int ((9 : Int32) - (4 : Int32))), .val (.int (1 : Int32))]) rfl ?_
            refine own_iload X135 hx hby at_291 (pc' := 293) rfl rfl ?_
            refine own_iconst X135 hx hby at_293 (pc' := 294) rfl (z := 5) rfl ?_
            refine own_icmpY X135 hx hby at_294 (by decide) (pc' := 325) (by decide) (flt (by decide)).2.2.2 ?_
            refine own_iload X135 hx hby at_325 (pc' := 327) rfl rfl ?_
            exact own_retNW X135 hx hby hZ (own_ew hw) e135 SN123 CH123 hlk hrt (by simp) at_327 (z' := (1 : Int32)) rfl ⟨rfl, N135⟩ (by decide) (by decide)
      · by_cases h1_ : (p2 &&& (7 : Int32)) < (4 : Int32)
        · by_cases h2_ : (p3 &&& (7 : Int32)) < (4 : Int32)
          · refine own_newP (aty := .char) X0 hx hby hZ (ow_104 hw) e0 at_60 (pc' := 62) rfl (by decide) (cap := 6) (by decide) (by decide) (by decide) (by decide) ?_
            intro T136 h136 b136 kA136 g136 X136 e136 E136 V_b136
            have le137 : h0.size ≤ b136 := Nat.le_of_eq g136.symm
            have n0_b136 : n0 ≤ b136 := Nat.le_trans Z0 (Nat.le_of_eq g136.symm)
            replace V_b136 : Arv Z h136 b136 kA136 .char (6 : Int32) [(.int (0 : Int32)), (.int (0 : Int32)), (.int (0 : Int32)), (.int (0 : Int32)), (.int (0 : Int32)), (.int (0 : Int32))] (.int (0 : Int32)) := V_b136.pad (pad_rep [] (.int (0 : Int32)) 6)
            refine own_astore X136 hx hby at_62 (pc' := 64) rfl rfl (Ls' := #[.val (.int p1), .val (.int p2), .val (.int p3), .val (.long pf), .second, .val (.int p4), .val (.int q), .val (.ref b136), .unset, .unset, .unset, .unset, .unset, .unset]) rfl ?_
            refine own_aload X136 hx hby at_64 (pc' := 66) rfl rfl rfl ?_
            refine own_iconst X136 hx hby at_66 (pc' := 67) rfl (z := 0) rfl ?_
            refine own_iloadN X136 hx hby at_67 (pc' := 68) rfl rfl ?_
            refine own_callM X136 hx hby hml hZ hown (ow_105 hw) (ow_106 hw) (ow_107 hw) (ow_108 hw) (by decide) (cc := 0) (ss := 0) (rm_put0_0 l Z a0 hw b136 p1 (.int (0 : Int32)) (.int (0 : Int32)) (.int (0 : Int32)) (.int (0 : Int32)) (.int (0 : Int32)) (.int (0 : Int32)) kA136 h136 n0 (Nat.le_trans Z0 E136.1) n0_b136 V_b136 h0_) 0 rfl rfl (by decide) (by decide) rfl (argsL := [(.ref b136), (.int (0 : Int32)), (.int p1)]) (rest := []) opd_20 rfl rfl (Nat.le_refl _) at_68 (pc' := 71) rfl rfl e136 (by decide) (by decide) ?_
            rintro v138 T138 h138 L138 X138 e138 ⟨rfl, Nq138, Kq138, Vq138⟩
            have N138 := N0.app Nq138
            have Ea139 := own_xk E136 Kq138 (allS le137 all0)
            refine own_istore X138 hx hby at_71 (pc' := 73) rfl (Ls' := #[.val (.int p1), .val (.int p2), .val (.int p3), .val (.long pf), .second, .val (.int p4), .val (.int q), .val (.ref b136), .val (.int (1 : Int32)), .unset, .unset, .unset, .unset, .unset]) rfl ?_
            refine own_aload X138 hx hby at_73 (pc' := 75) rfl rfl rfl ?_
            refine own_iload X138 hx hby at_75 (pc' := 77) rfl rfl ?_
            refine own_iloadN X138 hx hby at_77 (pc' := 78) rfl rfl ?_
            refine own_callM X138 hx hby hml hZ hown (ow_105 hw) (ow_106 hw) (ow_107 hw) (ow_108 hw) (by decide) (cc := 0) (ss := 0) (rm_put1_1 l Z a0 hw b136 p2 (.int (own_pl ((p1.toUInt32 >>> ((3 : Int32) &&& 31).toUInt32).toInt32))) (.int (0 : Int32)) (.int (0 : Int32)) (.int (0 : Int32)) (.int (0 : Int32)) (.int (0 : Int32)) kA136 h138 n0 (Nat.le_trans Z0 Ea139.1) n0_b136 Vq138 h1_) 0 rfl rfl (by decide) (by decide) rfl (argsL := [(.ref b136), (.int (1 : Int32)), (.int p2)]) (rest := []) opd_20 rfl rfl (Nat.le_refl _) at_78 (pc' := 81) rfl rfl e138 (by decide) (by decide) ?_
            rintro v140 T140 h140 L140 X140 e140 ⟨rfl, Nq140, Kq140, Vq140⟩
            have N140 := N138.app Nq140
            have Ea141 := own_xk Ea139 Kq140 (allS le137 all0)
            refine own_istore X140 hx hby at_81 (pc' := 83) rfl (Ls' := #[.val (.int p1), .val (.int p2), .val (.int p3), .val (.long pf), .second, .val (.int p4), .val (.int q), .val (.ref b136), .val (.int (1 : Int32)), .val (.int (3 : Int32)), .unset, .unset, .unset, .unset]) rfl ?_
            refine own_aload X140 hx hby at_83 (pc' := 85) rfl rfl rfl ?_
            refine own_iload X140 hx hby at_85 (pc' := 87) rfl rfl ?_
            refine own_iloadN X140 hx hby at_87 (pc' := 88) rfl rfl ?_
            refine own_callM X140 hx hby hml hZ hown (ow_105 hw) (ow_106 hw) (ow_107 hw) (ow_108 hw) (by decide) (cc := 0) (ss := 0) (rm_put1_3 l Z a0 hw b136 p3 (.int (own_pl ((p1.toUInt32 >>> ((3 : Int32) &&& 31).toUInt32).toInt32))) (.int (92 : Int32)) (.int (own_le (p2 &&& (7 : Int32)))) (.int (0 : Int32)) (.int (0 : Int32)) (.int (0 : Int32)) kA136 h140 n0 (Nat.le_trans Z0 Ea141.1) n0_b136 Vq140 h2_) 0 rfl rfl (by decide) (by decide) rfl (argsL := [(.ref b136), (.int (3 : Int32)), (.int p3)]) (rest := []) opd_20 rfl rfl (Nat.le_refl _) at_88 (pc' := 91) rfl rfl e140 (by decide) (by decide) ?_
            rintro v142 T142 h142 L142 X142 e142 ⟨rfl, Nq142, Kq142, Vq142⟩
            have N142 := N140.app Nq142
            have Ea143 := own_xk Ea141 Kq142 (allS le137 all0)
            refine own_istore X142 hx hby at_91 (pc' := 93) rfl (Ls' := #[.val (.int p1), .val (.int p2), .val (.int p3), .val (.long pf), .second, .val (.int p4), .val (.int q), .val (.ref b136), .val (.int (1 : Int32)), .val (.int (3 : Int32)), .val (.int (5 : Int32)), .unset, .unset, .unset]) rfl ?_
            refine own_iload X142 hx hby at_93 (pc' := 95) rfl rfl ?_
            refine own_iconst X142 hx hby at_95 (pc' := 96) rfl (z := 3) rfl ?_
            refine own_icmpY X142 hx hby at_96 (by decide) (pc' := 108) (by decide) (tlt (by decide)).2.2.1 ?_
            refine own_iload X142 hx hby at_108 (pc' := 110) rfl rfl ?_
            refine own_iconst X142 hx hby at_110 (pc' := 111) rfl (z := 4) rfl ?_
            refine own_icmpY X142 hx hby at_111 (by decide) (pc' := 126) (by decide) (tlt (by decide)).2.2.1 ?_
            refine own_iload X142 hx hby at_126 (pc' := 128) rfl rfl ?_
            refine own_iconst X142 hx hby at_128 (pc' := 129) rfl (z := 5) rfl ?_
            refine own_icmpN X142 hx hby at_129 (pc' := 132) rfl (flt (by decide)).2.2.1 ?_
            refine own_aload X142 hx hby at_132 (pc' := 134) rfl rfl rfl ?_
            refine own_iconst X142 hx hby at_134 (pc' := 135) rfl (z := 5) rfl ?_
            refine own_lloadN X142 hx hby at_135 (pc' := 136) rfl rfl ?_
            refine own_bipush X142 hx hby at_136 (pc' := 138) rfl (z := 16) rfl ?_
            refine own_lushr X142 hx hby at_138 (pc' := 139) rfl ?_
            refine own_l2i X142 hx hby at_139 (pc' := 140) rfl ?_
            refine own_callM X142 hx hby hml hZ hown (ow_115 hw) (ow_116 hw) (ow_107 hw) (ow_117 hw) (by decide) (cc := 0) (ss := 0) (rm_plain l Z a0 hw (((pf.toUInt64 >>> ((16 : Int32) &&& 0x3f).toInt64.toUInt64).toInt64).toInt32) h142 n0 (Nat.le_trans Z0 Ea143.1)) 2 rfl rfl (by decide) (by decide) rfl (argsL := [(.int (((pf.toUInt64 >>> ((16 : Int32) &&& 0x3f).toInt64.toUInt64).toInt64).toInt32))]) (rest := [(.int (5 : Int32)), (.ref b136)]) opd_14 rfl rfl (Nat.le_refl _) at_140 (pc' := 143) rfl rfl e142 (by decide) (by decide) ?_
            rintro v144 T144 h144 L144 X144 e144 ⟨_, rfl, rfl, Nq144, rfl⟩
            have N144 := N142.app Nq144
            refine own_stC X144 hx hby hZ e144 Vq142 ⟨by decide, by decide⟩ 5 rfl (Nat.le_of_ble_eq_true rfl) at_143 (pc' := 144) rfl ?_
            intro T145 h145 X145 e145 W145 V145_b136
            replace V145_b136 : Arv Z h145 b136 kA136 .char (6 : Int32) [(.int (own_pl ((p1.toUInt32 >>> ((3 : Int32) &&& 31).toUInt32).toInt32))), (.int (92 : Int32)), (.int (own_le (p2 &&& (7 : Int32)))), (.int (92 : Int32)), (.int (own_le (p3 &&& (7 : Int32)))), (.int (nar .char (own_pl (((pf.toUInt64 >>> ((16 : Int32) &&& 0x3f).toInt64.toUInt64).toInt64).toInt32))))] (.int (0 : Int32)) := V145_b136
            have Ea146 := own_xw Ea143 W145 le137
            have N145 := own_fr1 (sl := ((5 : Int32)).toNatClampNeg) N144 n0_b136
            rw [own_pl_n] at V145_b136
            refine own_newO X145 hx hby hZ hown (ow_118 hw) (ow_2 hw) (ow_1 hw) e145 at_144 (pc' := 147) rfl (by decide) (by decide) ?_
            intro T147 h147 b147 g147 X147 e147 E147 AX147 D147
            have le148 : h0.size ≤ b147 := Nat.le_trans Ea146.1 (Nat.le_of_eq g147.symm)
            have le149 : h145.size ≤ b147 := Nat.le_of_eq g147.symm
            have n0_b147 : n0 ≤ b147 := Nat.le_trans (Nat.le_trans Z0 Ea146.1) (Nat.le_of_eq g147.symm)
            have Ea150 := own_xt Ea146 E147
            have F_value_b147 : Fld Z h147 b147 "java/lang/String" "value" "[B" .null := D147 (Or.inr (ow_4 hw)) (ty := (.array .byte)) (by decide)
            have F_coder_b147 : Fld Z h147 b147 "java/lang/String" "coder" "B" (.int (0 : Int32)) := D147 (Or.inr (ow_5 hw)) (ty := .byte) (by decide)
            refine own_dup X147 hx hby at_147 (pc' := 148) rfl rfl ?_
            refine own_aload X147 hx hby at_148 (pc' := 150) rfl rfl rfl ?_
            have hp2 : ∀ c ∈ ([(own_pl ((p1.toUInt32 >>> ((3 : Int32) &&& 31).toUInt32).toInt32)), (92 : Int32), (own_le (p2 &&& (7 : Int32))), (92 : Int32), (own_le (p3 &&& (7 : Int32))), (own_pl (((pf.toUInt64 >>> ((16 : Int32) &&& 0x3f).toInt64.toUInt64).toInt64).toInt32))] : List Int32), ¬ c < 0 ∧ ¬ (255 : Int32) < c := (own_allC (own_pl_b _) (own_allC ⟨by decide, by decide⟩ (own_allC (own_le_b _) (own_allC ⟨by decide, by decide⟩ (own_allC (own_le_b _) (own_allC (own_pl_b _) own_all0))))))
            refine own_spec X147 hx hby hml hZ hown rfl (ow_119 hw) (ow_120 hw) (ow_121 hw) (by decide) (cc := 1) (ss := 6) (StrChars.Road.backV (W := 1) hZ (own_hws hw) (kI := 4) (ow_2 hw) (cs := [(own_pl ((p1.toUInt32 >>> ((3 : Int32) &&& 31).toUInt32).toInt32)), (92 : Int32), (own_le (p2 &&& (7 : Int32))), (92 : Int32), (own_le (p3 &&& (7 : Int32))), (own_pl (((pf.toUInt64 >>> ((16 : Int32) &&& 0x3f).toInt64.toUInt64).toInt64).toInt32))]) (bs := ([(own_pl ((p1.toUInt32 >>> ((3 : Int32) &&& 31).toUInt32).toInt32)), (92 : Int32), (own_le (p2 &&& (7 : Int32))), (92 : Int32), (own_le (p3 &&& (7 : Int32))), (own_pl (((pf.toUInt64 >>> ((16 : Int32) &&& 0x3f).toInt64.toUInt64).toInt64).toInt32))] : List Int32).map (fun c => c.toInt8.toInt32)) (n := 6) n0_b147 (Nat.le_trans Z0 Ea150.1) AX147 F_value_b147 F_coder_b147 (V145_b136.ext E147) (S_cs.ext Ea150) P5 rfl rfl (by decide) (by decide) hp2 rfl (by decide) (by decide)) rfl (argsL := [(.ref b136)]) (rest := [(.ref b147)]) opd_21 rfl rfl (Nat.le_refl _) at_150 (pc' := 153) rfl rfl e147 (by decide) (by decide) ?_
            rintro v151 T151 h151 L151 X151 e151 ⟨rfl, Nq151, Kq151, Aq151, Cq151, t151, kb151, _, _, _, Vq151, Bq151⟩
            have N151 := N145.app Nq151
            have Ea152 := own_xk Ea150 Kq151 (allS le148 all0)
            have Ea153 := own_xk E147 Kq151 (allS le149 all0)
            replace SN := SN.ext Ea152
            replace CH := CH.ext Ea152
            replace S_cs := S_cs.ext Ea152
            replace S_f := S_f.ext Ea152
            replace V145_b136 := V145_b136.ext Ea153
            have S_b147 : own_Str Z h151 b147 [(own_pl ((p1.toUInt32 >>> ((3 : Int32) &&& 31).toUInt32).toInt32)), (92 : Int32), (own_le (p2 &&& (7 : Int32))), (92 : Int32), (own_le (p3 &&& (7 : Int32))), (own_pl (((pf.toUInt64 >>> ((16 : Int32) &&& 0x3f).toInt64.toUInt64).toInt64).toInt32))] := ⟨Aq151, Cq151, hp2, t151, kb151, Vq151, Bq151⟩
            have A_b147 := S_b147.exa
            refine own_ldcO X151 hx hby hZ hown SN CH (own_ew hw) (own_ws hw) (ow_8 hw) e151 at_153 (pc' := 155) rfl (n := 40) (by decide) (by decide) (by decide) (by decide) ?_
            intro T154 vm154 h154 q154 X154 e154 hZ hown SN154 CH154 E154
            have Ea155 := own_xt Ea152 E154
            replace S_cs := S_cs.ext E154
            replace S_f := S_f.ext E154
            replace V145_b136 := V145_b136.ext E154
            replace S_b147 := S_b147.ext E154
            replace A_b147 := A_b147.ext E154
            refine own_callM X154 hx hby hml hZ hown (ow_9 hw) (ow_10 hw) (ow_11 hw) (ow_12 hw) (by decide) (cc := 4) (ss := 20) (rm_une l Z a0 hw b147 q154 [(own_pl ((p1.toUInt32 >>> ((3 : Int32) &&& 31).toUInt32).toInt32)), (92 : Int32), (own_le (p2 &&& (7 : Int32))), (92 : Int32), (own_le (p3 &&& (7 : Int32))), (own_pl (((pf.toUInt64 >>> ((16 : Int32) &&& 0x3f).toInt64.toUInt64).toInt64).toInt32))] [(own_pl ((p1.toUInt32 >>> ((3 : Int32) &&& 31).toUInt32).toInt32)), (own_me (p2 &&& (7 : Int32))), (own_me (p3 &&& (7 : Int32))), (own_pl (((pf.toUInt64 >>> ((16 : Int32) &&& 0x3f).toInt64.toUInt64).toInt64).toInt32))] [((own_pl ((p1.toUInt32 >>> ((3 : Int32) &&& 31).toUInt32).toInt32)), none), ((own_le (p2 &&& (7 : Int32))), some (own_me (p2 &&& (7 : Int32)))), ((own_le (p3 &&& (7 : Int32))), some (own_me (p3 &&& (7 : Int32)))), ((own_pl (((pf.toUInt64 >>> ((16 : Int32) &&& 0x3f).toInt64.toUInt64).toInt64).toInt32)), none)] G1 fm h154 n0 (Nat.le_trans Z0 Ea155.1) S_cs P5 S_f rf S_b147 (Nat.le_of_ble_eq_true rfl) (own_allC (own_okp _) (own_allC (own_oke h1_) (own_allC (own_oke h2_) (own_allC (own_okp _) own_all0)))) rfl rfl) 0 rfl rfl (by decide) (by decide) rfl (argsL := [(.ref b147), (.ref q154)]) (rest := []) opd_17 rfl rfl (Nat.le_refl _) at_155 (pc' := 158) rfl rfl e154 (by decide) (by decide) ?_
            rintro v156 T156 h156 L156 X156 e156 ⟨r, rfl, Eq156, Nq156, S_r⟩
            have N156 := N151.app Nq156
            have Ea157 := own_xt Ea155 Eq156
            replace S_cs := S_cs.ext Eq156
            replace S_f := S_f.ext Eq156
            replace V145_b136 := V145_b136.ext Eq156
            replace S_b147 := S_b147.ext Eq156
            replace A_b147 := A_b147.ext Eq156
            replace SN154 := SN154.ext Eq156
            replace CH154 := CH154.ext Eq156
            have A_r := S_r.exa
            refine own_astore X156 hx hby at_158 (pc' := 160) rfl rfl (Ls' := #[.val (.int p1), .val (.int p2), .val (.int p3), .val (.long pf), .second, .val (.int p4), .val (.int q), .val (.ref b136), .val (.int (1 : Int32)), .val (.int (3 : Int32)), .val (.int (5 : Int32)), .val (.ref r), .unset, .unset]) rfl ?_
            refine own_bipush X156 hx hby at_160 (pc' := 162) rfl (z := 9) rfl ?_
            refine own_iload X156 hx hby at_162 (pc' := 164) rfl rfl ?_
            refine own_isub X156 hx hby at_164 (pc' := 165) rfl ?_
            refine own_istore X156 hx hby at_165 (pc' := 167) rfl (Ls' := #[.val (.int p1), .val (.int p2), .val (.int p3), .val (.long pf), .second, .val (.int p4), .val (.int q), .val (.ref b136), .val (.int (1 : Int32)), .val (.int (3 : Int32)), .val (.int (5 : Int32)), .val (.ref r), .val (.int ((9 : Int32) - (5 : Int32))), .unset]) rfl ?_
            refine own_aload X156 hx hby at_167 (pc' := 169) rfl rfl rfl ?_
            refine own_virt X156 hx hby hml hZ hown (ow_188 hw) (ow_17 hw) (notFace_of_selects (args := #[]) (mvT hZ (ow_19 hw))) (ow_19 hw) (ow_18 hw) (by decide) (cc := 0) (ss := 0) (own_lenB (W := 0) hZ hw S_r (Nat.le_of_ble_eq_true rfl) S_cs P5 (by decide) (by decide)) rfl A_r (argsL := []) (rest := []) opd_3 rfl rfl (Nat.le_refl _) at_169 (pc' := 172) rfl rfl e156 (by decide) (by decide) ?_
            rintro v158 T158 h158 L158 X158 e158 ⟨hv158, hl158, hh158⟩
            subst hl158
            obtain rfl := hh158.symm
            obtain rfl := hv158
            have N158 := N156.app (Fr.nil n0)
            refine own_iload X158 hx hby at_172 (pc' := 174) rfl rfl ?_
            refine own_icmpY X158 hx hby at_174 (by decide) (pc' := 179) (by decide) (teq (show Int32.ofNat 4 = (9 : Int32) - (5 : Int32) from by decide)).1 ?_
            refine own_aload X158 hx hby at_179 (pc' := 181) rfl rfl rfl ?_
            refine own_iconst X158 hx hby at_181 (pc' := 182) rfl (z := 0) rfl ?_
            refine own_virt X158 hx hby hml hZ hown (ow_189 hw) (ow_136 hw) (notFace_of_selects (args := #[]) (mvT hZ (ow_138 hw))) (ow_138 hw) (ow_137 hw) (by decide) (cc := 0) (ss := 0) (own_chB (W := 0) hZ hw (i := 0) S_r (Nat.le_of_ble_eq_true rfl) S_cs P5 S_f rf (Nat.le_of_ble_eq_true rfl) rfl (by decide) (by decide)) rfl A_r (argsL := [(.int (0 : Int32))]) (rest := []) opd_14 rfl rfl (Nat.le_refl _) at_182 (pc' := 185) rfl rfl e158 (by decide) (by decide) ?_
            rintro v159 T159 h159 L159 X159 e159 ⟨hv159, hl159, hh159⟩
            rw [(show List.getD ([(own_pl ((p1.toUInt32 >>> ((3 : Int32) &&& 31).toUInt32).toInt32)), (own_me (p2 &&& (7 : Int32))), (own_me (p3 &&& (7 : Int32))), (own_pl (((pf.toUInt64 >>> ((16 : Int32) &&& 0x3f).toInt64.toUInt64).toInt64).toInt32))] : List Int32) 0 0 = (own_pl ((p1.toUInt32 >>> ((3 : Int32) &&& 31).toUInt32).toInt32)) from rfl)] at hv159
            subst hl159
            obtain rfl := hh159.symm
            obtain rfl := hv159
            have N159 := N158.app (Fr.nil n0)
            refine own_iloadN X159 hx hby at_185 (pc' := 186) rfl rfl ?_
            refine own_callM X159 hx hby hml hZ hown (ow_190 hw) (ow_191 hw) (ow_107 hw) (ow_192 hw) (by decide) (cc := 0) (ss := 0) (rm_out0 l Z a0 hw p1 h156 n0 (Nat.le_trans Z0 Ea157.1) h0_) 1 rfl rfl (by decide) (by decide) rfl (argsL := [(.int p1)]) (rest := [(.int (own_pl ((p1.toUInt32 >>> ((3 : Int32) &&& 31).toUInt32).toInt32)))]) opd_14 rfl rfl (Nat.le_refl _) at_186 (pc' := 189) rfl rfl e159 (by decide) (by decide) ?_
            rintro v160 T160 h160 L160 X160 e160 ⟨rfl, Nq160, rfl⟩
            have N160 := N159.app Nq160
            refine own_icmpN X160 hx hby at_189 (pc' := 192) rfl (teq rfl).2 ?_
            refine own_aload X160 hx hby at_192 (pc' := 194) rfl rfl rfl ?_
            refine own_iconst X160 hx hby at_194 (pc' := 195) rfl (z := 1) rfl ?_
            refine own_virt X160 hx hby hml hZ hown (ow_189 hw) (ow_136 hw) (notFace_of_selects (args := #[]) (mvT hZ (ow_138 hw))) (ow_138 hw) (ow_137 hw) (by decide) (cc := 0) (ss := 0) (own_chB (W := 0) hZ hw (i := 1) S_r (Nat.le_of_ble_eq_true rfl) S_cs P5 S_f rf (Nat.le_of_ble_eq_true rfl) rfl (by decide) (by decide)) rfl A_r (argsL := [(.int (1 : Int32))]) (rest := []) opd_14 rfl rfl (Nat.le_refl _) at_195 (pc' := 198) rfl rfl e160 (by decide) (by decide) ?_
            rintro v161 T161 h161 L161 X161 e161 ⟨hv161, hl161, hh161⟩
            rw [(show List.getD ([(own_pl ((p1.toUInt32 >>> ((3 : Int32) &&& 31).toUInt32).toInt32)), (own_me (p2 &&& (7 : Int32))), (own_me (p3 &&& (7 : Int32))), (own_pl (((pf.toUInt64 >>> ((16 : Int32) &&& 0x3f).toInt64.toUInt64).toInt64).toInt32))] : List Int32) 1 0 = (own_me (p2 &&& (7 : Int32))) from rfl)] at hv161
            subst hl161
            obtain rfl := hh161.symm
            obtain rfl := hv161
            have N161 := N160.app (Fr.nil n0)
            refine own_iloadN X161 hx hby at_198 (pc' := 199) rfl rfl ?_
            refine own_callM X161 hx hby hml hZ hown (ow_190 hw) (ow_191 hw) (ow_107 hw) (ow_192 hw) (by decide) (cc := 0) (ss := 0) (rm_out1 l Z a0 hw p2 h156 n0 (Nat.le_trans Z0 Ea157.1) h1_) 1 rfl rfl (by decide) (by decide) rfl (argsL := [(.int p2)]) (rest := [(.int (own_me (p2 &&& (7 : Int32))))]) opd_14 rfl rfl (Nat.le_refl _) at_199 (pc' := 202) rfl rfl e161 (by decide) (by decide) ?_
            rintro v162 T162 h162 L162 X162 e162 ⟨rfl, Nq162, rfl⟩
            have N162 := N161.app Nq162
            refine own_icmpN X162 hx hby at_202 (pc' := 205) rfl (teq rfl).2 ?_
            refine own_aload X162 hx hby at_205 (pc' := 207) rfl rfl rfl ?_
            refine own_iconst X162 hx hby at_207 (pc' := 208) rfl (z := 2) rfl ?_
            refine own_virt X162 hx hby hml hZ hown (ow_189 hw) (ow_136 hw) (notFace_of_selects (args := #[]) (mvT hZ (ow_138 hw))) (ow_138 hw) (ow_137 hw) (by decide) (cc := 0) (ss := 0) (own_chB (W := 0) hZ hw (i := 2) S_r (Nat.le_of_ble_eq_true rfl) S_cs P5 S_f rf (Nat.le_of_ble_eq_true rfl) rfl (by decide) (by decide)) rfl A_r (argsL := [(.int (2 : Int32))]) (rest := []) opd_14 rfl rfl (Nat.le_refl _) at_208 (pc' := 211) rfl rfl e162 (by decide) (by decide) ?_
            rintro v163 T163 h163 L163 X163 e163 ⟨hv163, hl163, hh163⟩
            rw [(show List.getD ([(own_pl ((p1.toUInt32 >>> ((3 : Int32) &&& 31).toUInt32).toInt32)), (own_me (p2 &&& (7 : Int32))), (own_me (p3 &&& (7 : Int32))), (own_pl (((pf.toUInt64 >>> ((16 : Int32) &&& 0x3f).toInt64.toUInt64).toInt64).toInt32))] : List Int32) 2 0 = (own_me (p3 &&& (7 : Int32))) from rfl)] at hv163
            subst hl163
            obtain rfl := hh163.symm
            obtain rfl := hv163
            have N163 := N162.app (Fr.nil n0)
            refine own_iloadN X163 hx hby at_211 (pc' := 212) rfl rfl ?_
            refine own_callM X163 hx hby hml hZ hown (ow_190 hw) (ow_191 hw) (ow_107 hw) (ow_192 hw) (by decide) (cc := 0) (ss := 0) (rm_out1 l Z a0 hw p3 h156 n0 (Nat.le_trans Z0 Ea157.1) h2_) 1 rfl rfl (by decide) (by decide) rfl (argsL := [(.int p3)]) (rest := [(.int (own_me (p3 &&& (7 : Int32))))]) opd_14 rfl rfl (Nat.le_refl _) at_212 (pc' := 215) rfl rfl e163 (by decide) (by decide) ?_
            rintro v164 T164 h164 L164 X164 e164 ⟨rfl, Nq164, rfl⟩
            have N164 := N163.app Nq164
            refine own_icmpN X164 hx hby at_215 (pc' := 218) rfl (teq rfl).2 ?_
            refine own_iconst X164 hx hby at_218 (pc' := 219) rfl (z := 1) rfl ?_
            refine own_goto X164 hx hby at_219 (by decide) (pc' := 223) (by decide) ?_
            refine own_istore X164 hx hby at_223 (pc' := 225) rfl (Ls' := #[.val (.int p1), .val (.int p2), .val (.int p3), .val (.long pf), .second, .val (.int p4), .val (.int q), .val (.ref b136), .val (.int (1 : Int32)), .val (.int (3 : Int32)), .val (.int (5 : Int32)), .val (.ref r), .val (.int ((9 : Int32) - (5 : Int32))), .val (.int (1 : Int32))]) rfl ?_
            refine own_iload X164 hx hby at_225 (pc' := 227) rfl rfl ?_
            refine own_iconst X164 hx hby at_227 (pc' := 228) rfl (z := 3) rfl ?_
            refine own_icmpN X164 hx hby at_228 (pc' := 231) rfl (tlt (by decide)).2.2.2 ?_
            refine own_iload X164 hx hby at_231 (pc' := 233) rfl rfl ?_
            refine own_ifN X164 hx hby at_233 (pc' := 236) rfl (feq (by decide)).1 ?_
            refine own_aload X164 hx hby at_236 (pc' := 238) rfl rfl rfl ?_
            refine own_iconst X164 hx hby at_238 (pc' := 239) rfl (z := 3) rfl ?_
            refine own_virt X164 hx hby hml hZ hown (ow_189 hw) (ow_136 hw) (notFace_of_selects (args := #[]) (mvT hZ (ow_138 hw))) (ow_138 hw) (ow_137 hw) (by decide) (cc := 0) (ss := 0) (own_chB (W := 0) hZ hw (i := 3) S_r (Nat.le_of_ble_eq_true rfl) S_cs P5 S_f rf (Nat.le_of_ble_eq_true rfl) rfl (by decide) (by decide)) rfl A_r (argsL := [(.int (3 : Int32))]) (rest := []) opd_14 rfl rfl (Nat.le_refl _) at_239 (pc' := 242) rfl rfl e164 (by decide) (by decide) ?_
            rintro v165 T165 h165 L165 X165 e165 ⟨hv165, hl165, hh165⟩
            rw [(show List.getD ([(own_pl ((p1.toUInt32 >>> ((3 : Int32) &&& 31).toUInt32).toInt32)), (own_me (p2 &&& (7 : Int32))), (own_me (p3 &&& (7 : Int32))), (own_pl (((pf.toUInt64 >>> ((16 : Int32) &&& 0x3f).toInt64.toUInt64).toInt64).toInt32))] : List Int32) 3 0 = (own_pl (((pf.toUInt64 >>> ((16 : Int32) &&& 0x3f).toInt64.toUInt64).toInt64).toInt32)) from rfl)] at hv165
            subst hl165
            obtain rfl := hh165.symm
            obtain rfl := hv165
            have N165 := N164.app (Fr.nil n0)
            refine own_aload X165 hx hby at_242 (pc' := 244) rfl rfl rfl ?_
            refine own_iload X165 hx hby at_244 (pc' := 246) rfl rfl ?_
            refine own_caloadV X165 hx hby hZ e165 V145_b136 ⟨by decide, by decide⟩ (v := (.int (own_pl (((pf.toUInt64 >>> ((16 : Int32) &&& 0x3f).toInt64.toUInt64).toInt64).toInt32)))) rfl at_246 (pc' := 247) rfl ?_
            refine own_icmpN X165 hx hby at_247 (pc' := 250) rfl (teq rfl).2 ?_
            refine own_iconst X165 hx hby at_250 (pc' := 251) rfl (z := 1) rfl ?_
            refine own_goto X165 hx hby at_251 (by decide) (pc' := 255) (by decide) ?_
            refine own_istore X165 hx hby at_255 (pc' := 257) rfl (Ls' := #[.val (.int p1), .val (.int p2), .val (.int p3), .val (.long pf), .second, .val (.int p4), .val (.int q), .val (.ref b136), .val (.int (1 : Int32)), .val (.int (3 : Int32)), .val (.int (5 : Int32)), .val (.ref r), .val (.int ((9 : Int32) - (5 : Int32))), .val (.int (1 : Int32))]) rfl ?_
            refine own_iload X165 hx hby at_257 (pc' := 259) rfl rfl ?_
            refine own_iconst X165 hx hby at_259 (pc' := 260) rfl (z := 4) rfl ?_
            refine own_icmpY X165 hx hby at_260 (by decide) (pc' := 291) (by decide) (flt (by decide)).2.2.2 ?_
            refine own_iload X165 hx hby at_291 (pc' := 293) rfl rfl ?_
            refine own_iconst X165 hx hby at_293 (pc' := 294) rfl (z := 5) rfl ?_
            refine own_icmpY X165 hx hby at_294 (by decide) (pc' := 325) (by decide) (flt (by decide)).2.2.2 ?_
            refine own_iload X165 hx hby at_325 (pc' := 327) rfl rfl ?_
            exact own_retNW X165 hx hby hZ (own_ew hw) e165 SN154 CH154 hlk hrt (by simp) at_327 (z' := (1 : Int32)) rfl ⟨rfl, N165⟩ (by decide) (by decide)
          · refine own_newP (aty := .char) X0 hx hby hZ (ow_104 hw) e0 at_60 (pc' := 62) rfl (by decide) (cap := 6) (by decide) (by decide) (by decide) (by decide) ?_
            intro T166 h166 b166 kA166 g166 X166 e166 E166 V_b166
            have le167 : h0.size ≤ b166 := Nat.le_of_eq g166.symm
            have n0_b166 : n0 ≤ b166 := Nat.le_trans Z0 (Nat.le_of_eq g166.symm)
            replace V_b166 : Arv Z h166 b166 kA166 .char (6 : Int32) [(.int (0 : Int32)), (.int (0 : Int32)), (.int (0 : Int32)), (.int (0 : Int32)), (.int (0 : Int32)), (.int (0 : Int32))] (.int (0 : Int32)) := V_b166.pad (pad_rep [] (.int (0 : Int32)) 6)
            refine own_astore X166 hx hby at_62 (pc' := 64) rfl rfl (Ls' := #[.val (.int p1), .val (.int p2), .val (.int p3), .val (.long pf), .second, .val (.int p4), .val (.int q), .val (.ref b166), .unset, .unset, .unset, .unset, .unset, .unset]) rfl ?_
            refine own_aload X166 hx hby at_64 (pc' := 66) rfl rfl rfl ?_
            refine own_iconst X166 hx hby at_66 (pc' := 67) rfl (z := 0) rfl ?_
            refine own_iloadN X166 hx hby at_67 (pc' := 68) rfl rfl ?_
            refine own_callM X166 hx hby hml hZ hown (ow_105 hw) (ow_106 hw) (ow_107 hw) (ow_108 hw) (by decide) (cc := 0) (ss := 0) (rm_put0_0 l Z a0 hw b166 p1 (.int (0 : Int32)) (.int (0 : Int32)) (.int (0 : Int32)) (.int (0 : Int32)) (.int (0 : Int32)) (.int (0 : Int32)) kA166 h166 n0 (Nat.le_trans Z0 E166.1) n0_b166 V_b166 h0_) 0 rfl rfl (by decide) (by decide) rfl (argsL := [(.ref b166), (.int (0 : Int32)), (.int p1)]) (rest := []) opd_20 rfl rfl (Nat.le_refl _) at_68 (pc' := 71) rfl rfl e166 (by decide) (by decide) ?_
            rintro v168 T168 h168 L168 X168 e168 ⟨rfl, Nq168, Kq168, Vq168⟩
            have N168 := N0.app Nq168
            have Ea169 := own_xk E166 Kq168 (allS le167 all0)
            refine own_istore X168 hx hby at_71 (pc' := 73) rfl (Ls' := #[.val (.int p1), .val (.int p2), .val (.int p3), .val (.long pf), .second, .val (.int p4), .val (.int q), .val (.ref b166), .val (.int (1 : Int32)), .unset, .unset, .unset, .unset, .unset]) rfl ?_
            refine own_aload X168 hx hby at_73 (pc' := 75) rfl rfl rfl ?_
            refine own_iload X168 hx hby at_75 (pc' := 77) rfl rfl ?_
            refine own_iloadN X168 hx hby at_77 (pc' := 78) rfl rfl ?_
            refine own_callM X168 hx hby hml hZ hown (ow_105 hw) (ow_106 hw) (ow_107 hw) (ow_108 hw) (by decide) (cc := 0) (ss := 0) (rm_put1_1 l Z a0 hw b166 p2 (.int (own_pl ((p1.toUInt32 >>> ((3 : Int32) &&& 31).toUInt32).toInt32))) (.int (0 : Int32)) (.int (0 : Int32)) (.int (0 : Int32)) (.int (0 : Int32)) (.int (0 : Int32)) kA166 h168 n0 (Nat.le_trans Z0 Ea169.1) n0_b166 Vq168 h1_) 0 rfl rfl (by decide) (by decide) rfl (argsL := [(.ref b166), (.int (1 : Int32)), (.int p2)]) (rest := []) opd_20 rfl rfl (Nat.le_refl _) at_78 (pc' := 81) rfl rfl e168 (by decide) (by decide) ?_
            rintro v170 T170 h170 L170 X170 e170 ⟨rfl, Nq170, Kq170, Vq170⟩
            have N170 := N168.app Nq170
            have Ea171 := own_xk Ea169 Kq170 (allS le167 all0)
            refine own_istore X170 hx hby at_81 (pc' := 83) rfl (Ls' := #[.val (.int p1), .val (.int p2), .val (.int p3), .val (.long pf), .second, .val (.int p4), .val (.int q), .val (.ref b166), .val (.int (1 : Int32)), .val (.int (3 : Int32)), .unset, .unset, .unset, .unset]) rfl ?_
            refine own_aload X170 hx hby at_83 (pc' := 85) rfl rfl rfl ?_
            refine own_iload X170 hx hby at_85 (pc' := 87) rfl rfl ?_
            refine own_iloadN X170 hx hby at_87 (pc' := 88) rfl rfl ?_
            refine own_callM X170 hx hby hml hZ hown (ow_105 hw) (ow_106 hw) (ow_107 hw) (ow_108 hw) (by decide) (cc := 0) (ss := 0) (rm_put0_3 l Z a0 hw b166 p3 (.int (own_pl ((p1.toUInt32 >>> ((3 : Int32) &&& 31).toUInt32).toInt32))) (.int (92 : Int32)) (.int (own_le (p2 &&& (7 : Int32)))) (.int (0 : Int32)) (.int (0 : Int32)) (.int (0 : Int32)) kA166 h170 n0 (Nat.le_trans Z0 Ea171.1) n0_b166 Vq170 h2_) 0 rfl rfl (by decide) (by decide) rfl (argsL := [(.ref b166), (.int (3 : Int32)), (.int p3)]) (rest := []) opd_20 rfl rfl (Nat.le_refl _) at_88 (pc' := 91) rfl rfl e170 (by decide) (by decide) ?_
            rintro v172 T172 h172 L172 X172 e172 ⟨rfl, Nq172, Kq172, Vq172⟩
            have N172 := N170.app Nq172
            have Ea173 := own_xk Ea171 Kq172 (allS le167 all0)
            refine own_istore X172 hx hby at_91 (pc' := 93) rfl (Ls' := #[.val (.int p1), .val (.int p2), .val (.int p3), .val (.long pf), .second, .val (.int p4), .val (.int q), .val (.ref b166), .val (.int (1 : Int32)), .val (.int (3 : Int32)), .val (.int (4 : Int32)), .unset, .unset, .unset]) rfl ?_
            refine own_iload X172 hx hby at_93 (pc' := 95) rfl rfl ?_
            refine own_iconst X172 hx hby at_95 (pc' := 96) rfl (z := 3) rfl ?_
            refine own_icmpY X172 hx hby at_96 (by decide) (pc' := 108) (by decide) (tlt (by decide)).2.2.1 ?_
            refine own_iload X172 hx hby at_108 (pc' := 110) rfl rfl ?_
            refine own_iconst X172 hx hby at_110 (pc' := 111) rfl (z := 4) rfl ?_
            refine own_icmpN X172 hx hby at_111 (pc' := 114) rfl (flt (by decide)).2.2.1 ?_
            refine own_aload X172 hx hby at_114 (pc' := 116) rfl rfl rfl ?_
            refine own_iconst X172 hx hby at_116 (pc' := 117) rfl (z := 4) rfl ?_
            refine own_lloadN X172 hx hby at_117 (pc' := 118) rfl rfl ?_
            refine own_bipush X172 hx hby at_118 (pc' := 120) rfl (z := 8) rfl ?_
            refine own_lushr X172 hx hby at_120 (pc' := 121) rfl ?_
            refine own_l2i X172 hx hby at_121 (pc' := 122) rfl ?_
            refine own_callM X172 hx hby hml hZ hown (ow_115 hw) (ow_116 hw) (ow_107 hw) (ow_117 hw) (by decide) (cc := 0) (ss := 0) (rm_plain l Z a0 hw (((pf.toUInt64 >>> ((8 : Int32) &&& 0x3f).toInt64.toUInt64).toInt64).toInt32) h172 n0 (Nat.le_trans Z0 Ea173.1)) 2 rfl rfl (by decide) (by decide) rfl (argsL := [(.int (((pf.toUInt64 >>> ((8 : Int32) &&& 0x3f).toInt64.toUInt64).toInt64).toInt32))]) (rest := [(.int (4 : Int32)), (.ref b166)]) opd_14 rfl rfl (Nat.le_refl _) at_122 (pc' := 125) rfl rfl e172 (by decide) (by decide) ?_
            rintro v174 T174 h174 L174 X174 e174 ⟨_, rfl, rfl, Nq174, rfl⟩
            have N174 := N172.app Nq174
            refine own_stC X174 hx hby hZ e174 Vq172 ⟨by decide, by decide⟩ 4 rfl (Nat.le_of_ble_eq_true rfl) at_125 (pc' := 126) rfl ?_
            intro T175 h175 X175 e175 W175 V175_b166
            replace V175_b166 : Arv Z h175 b166 kA166 .char (6 : Int32) [(.int (own_pl ((p1.toUInt32 >>> ((3 : Int32) &&& 31).toUInt32).toInt32))), (.int (92 : Int32)), (.int (own_le (p2 &&& (7 : Int32)))), (.int (own_pl ((p3.toUInt32 >>> ((3 : Int32) &&& 31).toUInt32).toInt32))), (.int (nar .char (own_pl (((pf.toUInt64 >>> ((8 : Int32) &&& 0x3f).toInt64.toUInt64).toInt64).toInt32)))), (.int (0 : Int32))] (.int (0 : Int32)) := V175_b166
            have Ea176 := own_xw Ea173 W175 le167
            have N175 := own_fr1 (sl := ((4 : Int32)).toNatClampNeg) N174 n0_b166
            rw [own_pl_n] at V175_b166
            refine own_iload X175 hx hby at_126 (pc' := 128) rfl rfl ?_
            refine own_iconst X175 hx hby at_128 (pc' := 129) rfl (z := 5) rfl ?_
            refine own_icmpN X175 hx hby at_129 (pc' := 132) rfl (flt (by decide)).2.2.1 ?_
            refine own_aload X175 hx hby at_132 (pc' := 134) rfl rfl rfl ?_
            refine own_iconst X175 hx hby at_134 (pc' := 135) rfl (z := 5) rfl ?_
            refine own_lloadN X175 hx hby at_135 (pc' := 136) rfl rfl ?_
            refine own_bipush X175 hx hby at_136 (pc' := 138) rfl (z := 16) rfl ?_
            refine own_lushr X175 hx hby at_138 (pc' := 139) rfl ?_
            refine own_l2i X175 hx hby at_139 (pc' := 140) rfl ?_
            refine own_callM X175 hx hby hml hZ hown (ow_115 hw) (ow_116 hw) (ow_107 hw) (ow_117 hw) (by decide) (cc := 0) (ss := 0) (rm_plain l Z a0 hw (((pf.toUInt64 >>> ((16 : Int32) &&& 0x3f).toInt64.toUInt64).toInt64).toInt32) h175 n0 (Nat.le_trans Z0 Ea176.1)) 2 rfl rfl (by decide) (by decide) rfl (argsL := [(.int (((pf.toUInt64 >>> ((16 : Int32) &&& 0x3f).toInt64.toUInt64).toInt64).toInt32))]) (rest := [(.int (5 : Int32)), (.ref b166)]) opd_14 rfl rfl (Nat.le_refl _) at_140 (pc' := 143) rfl rfl e175 (by decide) (by decide) ?_
            rintro v177 T177 h177 L177 X177 e177 ⟨_, rfl, rfl, Nq177, rfl⟩
            have N177 := N175.app Nq177
            refine own_stC X177 hx hby hZ e177 V175_b166 ⟨by decide, by decide⟩ 5 rfl (Nat.le_of_ble_eq_true rfl) at_143 (pc' := 144) rfl ?_
            intro T178 h178 X178 e178 W178 V178_b166
            replace V178_b166 : Arv Z h178 b166 kA166 .char (6 : Int32) [(.int (own_pl ((p1.toUInt32 >>> ((3 : Int32) &&& 31).toUInt32).toInt32))), (.int (92 : Int32)), (.int (own_le (p2 &&& (7 : Int32)))), (.int (own_pl ((p3.toUInt32 >>> ((3 : Int32) &&& 31).toUInt32).toInt32))), (.int (own_pl (((pf.toUInt64 >>> ((8 : Int32) &&& 0x3f).toInt64.toUInt64).toInt64).toInt32))), (.int (nar .char (own_pl (((pf.toUInt64 >>> ((16 : Int32) &&& 0x3f).toInt64.toUInt64).toInt64).toInt32))))] (.int (0 : Int32)) := V178_b166
            have Ea179 := own_xw Ea176 W178 le167
            have N178 := own_fr1 (sl := ((5 : Int32)).toNatClampNeg) N177 n0_b166
            rw [own_pl_n] at V178_b166
            refine own_newO X178 hx hby hZ hown (ow_118 hw) (ow_2 hw) (ow_1 hw) e178 at_144 (pc' := 147) rfl (by decide) (by decide) ?_
            intro T180 h180 b180 g180 X180 e180 E180 AX180 D180
            have le181 : h0.size ≤ b180 := Nat.le_trans Ea179.1 (Nat.le_of_eq g180.symm)
            have le182 : h178.size ≤ b180 := Nat.le_of_eq g180.symm
            have n0_b180 : n0 ≤ b180 := Nat.le_trans (Nat.le_trans Z0 Ea179.1) (Nat.le_of_eq g180.symm)
            have Ea183 := own_xt Ea179 E180
            have F_value_b180 : Fld Z h180 b180 "java/lang/String" "value" "[B" .null := D180 (Or.inr (ow_4 hw)) (ty := (.array .byte)) (by decide)
            have F_coder_b180 : Fld Z h180 b180 "java/lang/String" "coder" "B" (.int (0 : Int32)) := D180 (Or.inr (ow_5 hw)) (ty := .byte) (by decide)
            refine own_dup X180 hx hby at_147 (pc' := 148) rfl rfl ?_
            refine own_aload X180 hx hby at_148 (pc' := 150) rfl rfl rfl ?_
            have hp2 : ∀ c ∈ ([(own_pl ((p1.toUInt32 >>> ((3 : Int32) &&& 31).toUInt32).toInt32)), (92 : Int32), (own_le (p2 &&& (7 : Int32))), (own_pl ((p3.toUInt32 >>> ((3 : Int32) &&& 31).toUInt32).toInt32)), (own_pl (((pf.toUInt64 >>> ((8 : Int32) &&& 0x3f).toInt64.toUInt64).toInt64).toInt32)), (own_pl (((pf.toUInt64 >>> ((16 : Int32) &&& 0x3f).toInt64.toUInt64).toInt64).toInt32))] : List Int32), ¬ c < 0 ∧ ¬ (255 : Int32) < c := (own_allC (own_pl_b _) (own_allC ⟨by decide, by decide⟩ (own_allC (own_le_b _) (own_allC (own_pl_b _) (own_allC (own_pl_b _) (own_allC (own_pl_b _) own_all0))))))
            refine own_spec X180 hx hby hml hZ hown rfl (ow_119 hw) (ow_120 hw) (ow_121 hw) (by decide) (cc := 1) (ss := 6) (StrChars.Road.backV (W := 1) hZ (own_hws hw) (kI := 4) (ow_2 hw) (cs := [(own_pl ((p1.toUInt32 >>> ((3 : Int32) &&& 31).toUInt32).toInt32)), (92 : Int32), (own_le (p2 &&& (7 : Int32))), (own_pl ((p3.toUInt32 >>> ((3 : Int32) &&& 31).toUInt32).toInt32)), (own_pl (((pf.toUInt64 >>> ((8 : Int32) &&& 0x3f).toInt64.toUInt64).toInt64).toInt32)), (own_pl (((pf.toUInt64 >>> ((16 : Int32) &&& 0x3f).toInt64.toUInt64).toInt64).toInt32))]) (bs := ([(own_pl ((p1.toUInt32 >>> ((3 : Int32) &&& 31).toUInt32).toInt32)), (92 : Int32), (own_le (p2 &&& (7 : Int32))), (own_pl ((p3.toUInt32 >>> ((3 : Int32) &&& 31).toUInt32).toInt32)), (own_pl (((pf.toUInt64 >>> ((8 : Int32) &&& 0x3f).toInt64.toUInt64).toInt64).toInt32)), (own_pl (((pf.toUInt64 >>> ((16 : Int32) &&& 0x3f).toInt64.toUInt64).toInt64).toInt32))] : List Int32).map (fun c => c.toInt8.toInt32)) (n := 6) n0_b180 (Nat.le_trans Z0 Ea183.1) AX180 F_value_b180 F_coder_b180 (V178_b166.ext E180) (S_cs.ext Ea183) P5 rfl rfl (by decide) (by decide) hp2 rfl (by decide) (by decide)) rfl (argsL := [(.ref b166)]) (rest := [(.ref b180)]) opd_21 rfl rfl (Nat.le_refl _) at_150 (pc' := 153) rfl rfl e180 (by decide) (by decide) ?_
            rintro v184 T184 h184 L184 X184 e184 ⟨rfl, Nq184, Kq184, Aq184, Cq184, t184, kb184, _, _, _, Vq184, Bq184⟩
            have N184 := N178.app Nq184
            have Ea185 := own_xk Ea183 Kq184 (allS le181 all0)
            have Ea186 := own_xk E180 Kq184 (allS le182 all0)
            replace SN := SN.ext Ea185
            replace CH := CH.ext Ea185
            replace S_cs := S_cs.ext Ea185
            replace S_f := S_f.ext Ea185
            replace V178_b166 := V178_b166.ext Ea186
            have S_b180 : own_Str Z h184 b180 [(own_pl ((p1.toUInt32 >>> ((3 : Int32) &&& 31).toUInt32).toInt32)), (92 : Int32), (own_le (p2 &&& (7 : Int32))), (own_pl ((p3.toUInt32 >>> ((3 : Int32) &&& 31).toUInt32).toInt32)), (own_pl (((pf.toUInt64 >>> ((8 : Int32) &&& 0x3f).toInt64.toUInt64).toInt64).toInt32)), (own_pl (((pf.toUInt64 >>> ((16 : Int32) &&& 0x3f).toInt64.toUInt64).toInt64).toInt32))] := ⟨Aq184, Cq184, hp2, t184, kb184, Vq184, Bq184⟩
            have A_b180 := S_b180.exa
            refine own_ldcO X184 hx hby hZ hown SN CH (own_ew hw) (own_ws hw) (ow_8 hw) e184 at_153 (pc' := 155) rfl (n := 40) (by decide) (by decide) (by decide) (by decide) ?_
            intro T187 vm187 h187 q187 X187 e187 hZ hown SN187 CH187 E187
            have Ea188 := own_xt Ea185 E187
            replace S_cs := S_cs.ext E187
            replace S_f := S_f.ext E187
            replace V178_b166 := V178_b166.ext E187
            replace S_b180 := S_b180.ext E187
            replace A_b180 := A_b180.ext E187
            refine own_callM X187 hx hby hml hZ hown (ow_9 hw) (ow_10 hw) (ow_11 hw) (ow_12 hw) (by decide) (cc := 4) (ss := 20) (rm_une l Z a0 hw b180 q187 [(own_pl ((p1.toUInt32 >>> ((3 : Int32) &&& 31).toUInt32).toInt32)), (92 : Int32), (own_le (p2 &&& (7 : Int32))), (own_pl ((p3.toUInt32 >>> ((3 : Int32) &&& 31).toUInt32).toInt32)), (own_pl (((pf.toUInt64 >>> ((8 : Int32) &&& 0x3f).toInt64.toUInt64).toInt64).toInt32)), (own_pl (((pf.toUInt64 >>> ((16 : Int32) &&& 0x3f).toInt64.toUInt64).toInt64).toInt32))] [(own_pl ((p1.toUInt32 >>> ((3 : Int32) &&& 31).toUInt32).toInt32)), (own_me (p2 &&& (7 : Int32))), (own_pl ((p3.toUInt32 >>> ((3 : Int32) &&& 31).toUInt32).toInt32)), (own_pl (((pf.toUInt64 >>> ((8 : Int32) &&& 0x3f).toInt64.toUInt64).toInt64).toInt32)), (own_pl (((pf.toUInt64 >>> ((16 : Int32) &&& 0x3f).toInt64.toUInt64).toInt64).toInt32))] [((own_pl ((p1.toUInt32 >>> ((3 : Int32) &&& 31).toUInt32).toInt32)), none), ((own_le (p2 &&& (7 : Int32))), some (own_me (p2 &&& (7 : Int32)))), ((own_pl ((p3.toUInt32 >>> ((3 : Int32) &&& 31).toUInt32).toInt32)), none), ((own_pl (((pf.toUInt64 >>> ((8 : Int32) &&& 0x3f).toInt64.toUInt64).toInt64).toInt32)), none), ((own_pl (((pf.toUInt64 >>> ((16 : Int32) &&& 0x3f).toInt64.toUInt64).toInt64).toInt32)), none)] G1 fm h187 n0 (Nat.le_trans Z0 Ea188.1) S_cs P5 S_f rf S_b180 (Nat.le_of_ble_eq_true rfl) (own_allC (own_okp _) (own_allC (own_oke h1_) (own_allC (own_okp _) (own_allC (own_okp _) (own_allC (own_okp _) own_all0))))) rfl rfl) 0 rfl rfl (by decide) (by decide) rfl (argsL := [(.ref b180), (.ref q187)]) (rest := []) opd_17 rfl rfl (Nat.le_refl _) at_155 (pc' := 158) rfl rfl e187 (by decide) (by decide) ?_
            rintro v189 T189 h189 L189 X189 e189 ⟨r, rfl, Eq189, Nq189, S_r⟩
            have N189 := N184.app Nq189
            have Ea190 := own_xt Ea188 Eq189
            replace S_cs := S_cs.ext Eq189
            replace S_f := S_f.ext Eq189
            replace V178_b166 := V178_b166.ext Eq189
            replace S_b180 := S_b180.ext Eq189
            replace A_b180 := A_b180.ext Eq189
            replace SN187 := SN187.ext Eq189
            replace CH187 := CH187.ext Eq189
            have A_r := S_r.exa
            refine own_astore X189 hx hby at_158 (pc' := 160) rfl rfl (Ls' := #[.val (.int p1), .val (.int p2), .val (.int p3), .val (.long pf), .second, .val (.int p4), .val (.int q), .val (.ref b166), .val (.int (1 : Int32)), .val (.int (3 : Int32)), .val (.int (4 : Int32)), .val (.ref r), .unset, .unset]) rfl ?_
            refine own_bipush X189 hx hby at_160 (pc' := 162) rfl (z := 9) rfl ?_
            refine own_iload X189 hx hby at_162 (pc' := 164) rfl rfl ?_
            refine own_isub X189 hx hby at_164 (pc' := 165) rfl ?_
            refine own_istore X189 hx hby at_165 (pc' := 167) rfl (Ls' := #[.val (.int p1), .val (.int p2), .val (.int p3), .val (.long pf), .second, .val (.int p4), .val (.int q), .val (.ref b166), .val (.int (1 : Int32)), .val (.int (3 : Int32)), .val (.int (4 : Int32)), .val (.ref r), .val (.int ((9 : Int32) - (4 : Int32))), .unset]) rfl ?_
            refine own_aload X189 hx hby at_167 (pc' := 169) rfl rfl rfl ?_
            refine own_virt X189 hx hby hml hZ hown (ow_188 hw) (ow_17 hw) (notFace_of_selects (args := #[]) (mvT hZ (ow_19 hw))) (ow_19 hw) (ow_18 hw) (by decide) (cc := 0) (ss := 0) (own_lenB (W := 0) hZ hw S_r (Nat.le_of_ble_eq_true rfl) S_cs P5 (by decide) (by decide)) rfl A_r (argsL := []) (rest := []) opd_3 rfl rfl (Nat.le_refl _) at_169 (pc' := 172) rfl rfl e189 (by decide) (by decide) ?_
            rintro v191 T191 h191 L191 X191 e191 ⟨hv191, hl191, hh191⟩
            subst hl191
            obtain rfl := hh191.symm
            obtain rfl := hv191
            have N191 := N189.app (Fr.nil n0)
            refine own_iload X191 hx hby at_172 (pc' := 174) rfl rfl ?_
            refine own_icmpY X191 hx hby at_174 (by decide) (pc' := 179) (by decide) (teq (show Int32.ofNat 5 = (9 : Int32) - (4 : Int32) from by decide)).1 ?_
            refine own_aload X191 hx hby at_179 (pc' := 181) rfl rfl rfl ?_
            refine own_iconst X191 hx hby at_181 (pc' := 182) rfl (z := 0) rfl ?_
            refine own_virt X191 hx hby hml hZ hown (ow_189 hw) (ow_136 hw) (notFace_of_selects (args := #[]) (mvT hZ (ow_138 hw))) (ow_138 hw) (ow_137 hw) (by decide) (cc := 0) (ss := 0) (own_chB (W := 0) hZ hw (i := 0) S_r (Nat.le_of_ble_eq_true rfl) S_cs P5 S_f rf (Nat.le_of_ble_eq_true rfl) rfl (by decide) (by decide)) rfl A_r (argsL := [(.int (0 : Int32))]) (rest := []) opd_14 rfl rfl (Nat.le_refl _) at_182 (pc' := 185) rfl rfl e191 (by decide) (by decide) ?_
            rintro v192 T192 h192 L192 X192 e192 ⟨hv192, hl192, hh192⟩
            rw [(show List.getD ([(own_pl ((p1.toUInt32 >>> ((3 : Int32) &&& 31).toUInt32).toInt32)), (own_me (p2 &&& (7 : Int32))), (own_pl ((p3.toUInt32 >>> ((3 : Int32) &&& 31).toUInt32).toInt32)), (own_pl (((pf.toUInt64 >>> ((8 : Int32) &&& 0x3f).toInt64.toUInt64).toInt64).toInt32)), (own_pl (((pf.toUInt64 >>> ((16 : Int32) &&& 0x3f).toInt64.toUInt64).toInt64).toInt32))] : List Int32) 0 0 = (own_pl ((p1.toUInt32 >>> ((3 : Int32) &&& 31).toUInt32).toInt32)) from rfl)] at hv192
            subst hl192
            obtain rfl := hh192.symm
            obtain rfl := hv192
            have N192 := N191.app (Fr.nil n0)
            refine own_iloadN X192 hx hby at_185 (pc' := 186) rfl rfl ?_
            refine own_callM X192 hx hby hml hZ hown (ow_190 hw) (ow_191 hw) (ow_107 hw) (ow_192 hw) (by decide) (cc := 0) (ss := 0) (rm_out0 l Z a0 hw p1 h189 n0 (Nat.le_trans Z0 Ea190.1) h0_) 1 rfl rfl (by decide) (by decide) rfl (argsL := [(.int p1)]) (rest := [(.int (own_pl ((p1.toUInt32 >>> ((3 : Int32) &&& 31).toUInt32).toInt32)))]) opd_14 rfl rfl (Nat.le_refl _) at_186 (pc' := 189) rfl rfl e192 (by decide) (by decide) ?_
            rintro v193 T193 h193 L193 X193 e193 ⟨rfl, Nq193, rfl⟩
            have N193 := N192.app Nq193
            refine own_icmpN X193 hx hby at_189 (pc' := 192) rfl (teq rfl).2 ?_
            refine own_aload X193 hx hby at_192 (pc' := 194) rfl rfl rfl ?_
            refine own_iconst X193 hx hby at_194 (pc' := 195) rfl (z := 1) rfl ?_
            refine own_virt X193 hx hby hml hZ hown (ow_189 hw) (ow_136 hw) (notFace_of_selects (args := #[]) (mvT hZ (ow_138 hw))) (ow_138 hw) (ow_137 hw) (by decide) (cc := 0) (ss := 0) (own_chB (W := 0) hZ hw (i := 1) S_r (Nat.le_of_ble_eq_true rfl) S_cs P5 S_f rf (Nat.le_of_ble_eq_true rfl) rfl (by decide) (by decide)) rfl A_r (argsL := [(.int (1 : Int32))]) (rest := []) opd_14 rfl rfl (Nat.le_refl _) at_195 (pc' := 198) rfl rfl e193 (by decide) (by decide) ?_
            rintro v194 T194 h194 L194 X194 e194 ⟨hv194, hl194, hh194⟩
            rw [(show List.getD ([(own_pl ((p1.toUInt32 >>> ((3 : Int32) &&& 31).toUInt32).toInt32)), (own_me (p2 &&& (7 : Int32))), (own_pl ((p3.toUInt32 >>> ((3 : Int32) &&& 31).toUInt32).toInt32)), (own_pl (((pf.toUInt64 >>> ((8 : Int32) &&& 0x3f).toInt64.toUInt64).toInt64).toInt32)), (own_pl (((pf.toUInt64 >>> ((16 : Int32) &&& 0x3f).toInt64.toUInt64).toInt64).toInt32))] : List Int32) 1 0 = (own_me (p2 &&& (7 : Int32))) from rfl)] at hv194
            subst hl194
            obtain rfl := hh194.symm
            obtain rfl := hv194
            have N194 := N193.app (Fr.nil n0)
            refine own_iloadN X194 hx hby at_198 (pc' := 199) rfl rfl ?_
            refine own_callM X194 hx hby hml hZ hown (ow_190 hw) (ow_191 hw) (ow_107 hw) (ow_192 hw) (by decide) (cc := 0) (ss := 0) (rm_out1 l Z a0 hw p2 h189 n0 (Nat.le_trans Z0 Ea190.1) h1_) 1 rfl rfl (by decide) (by decide) rfl (argsL := [(.int p2)]) (rest := [(.int (own_me (p2 &&& (7 : Int32))))]) opd_14 rfl rfl (Nat.le_refl _) at_199 (pc' := 202) rfl rfl e194 (by decide) (by decide) ?_
            rintro v195 T195 h195 L195 X195 e195 ⟨rfl, Nq195, rfl⟩
            have N195 := N194.app Nq195
            refine own_icmpN X195 hx hby at_202 (pc' := 205) rfl (teq rfl).2 ?_
            refine own_aload X195 hx hby at_205 (pc' := 207) rfl rfl rfl ?_
            refine own_iconst X195 hx hby at_207 (pc' := 208) rfl (z := 2) rfl ?_
            refine own_virt X195 hx hby hml hZ hown (ow_189 hw) (ow_136 hw) (notFace_of_selects (args := #[]) (mvT hZ (ow_138 hw))) (ow_138 hw) (ow_137 hw) (by decide) (cc := 0) (ss := 0) (own_chB (W := 0) hZ hw (i := 2) S_r (Nat.le_of_ble_eq_true rfl) S_cs P5 S_f rf (Nat.le_of_ble_eq_true rfl) rfl (by decide) (by decide)) rfl A_r (argsL := [(.int (2 : Int32))]) (rest := []) opd_14 rfl rfl (Nat.le_refl _) at_208 (pc' := 211) rfl rfl e195 (by decide) (by decide) ?_
            rintro v196 T196 h196 L196 X196 e196 ⟨hv196, hl196, hh196⟩
            rw [(show List.getD ([(own_pl ((p1.toUInt32 >>> ((3 : Int32) &&& 31).toUInt32).toInt32)), (own_me (p2 &&& (7 : Int32))), (own_pl ((p3.toUInt32 >>> ((3 : Int32) &&& 31).toUInt32).toInt32)), (own_pl (((pf.toUInt64 >>> ((8 : Int32) &&& 0x3f).toInt64.toUInt64).toInt64).toInt32)), (own_pl (((pf.toUInt64 >>> ((16 : Int32) &&& 0x3f).toInt64.toUInt64).toInt64).toInt32))] : List Int32) 2 0 = (own_pl ((p3.toUInt32 >>> ((3 : Int32) &&& 31).toUInt32).toInt32)) from rfl)] at hv196
            subst hl196
            obtain rfl := hh196.symm
            obtain rfl := hv196
            have N196 := N195.app (Fr.nil n0)
            refine own_iloadN X196 hx hby at_211 (pc' := 212) rfl rfl ?_
            refine own_callM X196 hx hby hml hZ hown (ow_190 hw) (ow_191 hw) (ow_107 hw) (ow_192 hw) (by decide) (cc := 0) (ss := 0) (rm_out0 l Z a0 hw p3 h189 n0 (Nat.le_trans Z0 Ea190.1) h2_) 1 rfl rfl (by decide) (by decide) rfl (argsL := [(.int p3)]) (rest := [(.int (own_pl ((p3.toUInt32 >>> ((3 : Int32) &&& 31).toUInt32).toInt32)))]) opd_14 rfl rfl (Nat.le_refl _) at_212 (pc' := 215) rfl rfl e196 (by decide) (by decide) ?_
            rintro v197 T197 h197 L197 X197 e197 ⟨rfl, Nq197, rfl⟩
            have N197 := N196.app Nq197
            refine own_icmpN X197 hx hby at_215 (pc' := 218) rfl (teq rfl).2 ?_
            refine own_iconst X197 hx hby at_218 (pc' := 219) rfl (z := 1) rfl ?_
            refine own_goto X197 hx hby at_219 (by decide) (pc' := 223) (by decide) ?_
            refine own_istore X197 hx hby at_223 (pc' := 225) rfl (Ls' := #[.val (.int p1), .val (.int p2), .val (.int p3), .val (.long pf), .second, .val (.int p4), .val (.int q), .val (.ref b166), .val (.int (1 : Int32)), .val (.int (3 : Int32)), .val (.int (4 : Int32)), .val (.ref r), .val (.int ((9 : Int32) - (4 : Int32))), .val (.int (1 : Int32))]) rfl ?_
            refine own_iload X197 hx hby at_225 (pc' := 227) rfl rfl ?_
            refine own_iconst X197 hx hby at_227 (pc' := 228) rfl (z := 3) rfl ?_
            refine own_icmpN X197 hx hby at_228 (pc' := 231) rfl (tlt (by decide)).2.2.2 ?_
            refine own_iload X197 hx hby at_231 (pc' := 233) rfl rfl ?_
            refine own_ifN X197 hx hby at_233 (pc' := 236) rfl (feq (by decide)).1 ?_
            refine own_aload X197 hx hby at_236 (pc' := 238) rfl rfl rfl ?_
            refine own_iconst X197 hx hby at_238 (pc' := 239) rfl (z := 3) rfl ?_
            refine own_virt X197 hx hby hml hZ hown (ow_189 hw) (ow_136 hw) (notFace_of_selects (args := #[]) (mvT hZ (ow_138 hw))) (ow_138 hw) (ow_137 hw) (by decide) (cc := 0) (ss := 0) (own_chB (W := 0) hZ hw (i := 3) S_r (Nat.le_of_ble_eq_true rfl) S_cs P5 S_f rf (Nat.le_of_ble_eq_true rfl) rfl (by decide) (by decide)) rfl A_r (argsL := [(.int (3 : Int32))]) (rest := []) opd_14 rfl rfl (Nat.le_refl _) at_239 (pc' := 242) rfl rfl e197 (by decide) (by decide) ?_
            rintro v198 T198 h198 L198 X198 e198 ⟨hv198, hl198, hh198⟩
            rw [(show List.getD ([(own_pl ((p1.toUInt32 >>> ((3 : Int32) &&& 31).toUInt32).toInt32)), (own_me (p2 &&& (7 : Int32))), (own_pl ((p3.toUInt32 >>> ((3 : Int32) &&& 31).toUInt32).toInt32)), (own_pl (((pf.toUInt64 >>> ((8 : Int32) &&& 0x3f).toInt64.toUInt64).toInt64).toInt32)), (own_pl (((pf.toUInt64 >>> ((16 : Int32) &&& 0x3f).toInt64.toUInt64).toInt64).toInt32))] : List Int32) 3 0 = (own_pl (((pf.toUInt64 >>> ((8 : Int32) &&& 0x3f).toInt64.toUInt64).toInt64).toInt32)) from rfl)] at hv198
            subst hl198
            obtain rfl := hh198.symm
            obtain rfl := hv198
            have N198 := N197.app (Fr.nil n0)
            refine own_aload X198 hx hby at_242 (pc' := 244) rfl rfl rfl ?_
            refine own_iload X198 hx hby at_244 (pc' := 246) rfl rfl ?_
            refine own_caloadV X198 hx hby hZ e198 V178_b166 ⟨by decide, by decide⟩ (v := (.int (own_pl (((pf.toUInt64 >>> ((8 : Int32) &&& 0x3f).toInt64.toUInt64).toInt64).toInt32)))) rfl at_246 (pc' := 247) rfl ?_
            refine own_icmpN X198 hx hby at_247 (pc' := 250) rfl (teq rfl).2 ?_
            refine own_iconst X198 hx hby at_250 (pc' := 251) rfl (z := 1) rfl ?_
            refine own_goto X198 hx hby at_251 (by decide) (pc' := 255) (by decide) ?_
            refine own_istore X198 hx hby at_255 (pc' := 257) rfl (Ls' := #[.val (.int p1), .val (.int p2), .val (.int p3), .val (.long pf), .second, .val (.int p4), .val (.int q), .val (.ref b166), .val (.int (1 : Int32)), .val (.int (3 : Int32)), .val (.int (4 : Int32)), .val (.ref r), .val (.int ((9 : Int32) - (4 : Int32))), .val (.int (1 : Int32))]) rfl ?_
            refine own_iload X198 hx hby at_257 (pc' := 259) rfl rfl ?_
            refine own_iconst X198 hx hby at_259 (pc' := 260) rfl (z := 4) rfl ?_
            refine own_icmpN X198 hx hby at_260 (pc' := 263) rfl (tlt (by decide)).2.2.2 ?_
            refine own_iload X198 hx hby at_263 (pc' := 265) rfl rfl ?_
            refine own_ifN X198 hx hby at_265 (pc' := 268) rfl (feq (by decide)).1 ?_
            refine own_aload X198 hx hby at_268 (pc' := 270) rfl rfl rfl ?_
            refine own_iconst X198 hx hby at_270 (pc' := 271) rfl (z := 4) rfl ?_
            refine own_virt X198 hx hby hml hZ hown (ow_189 hw) (ow_136 hw) (notFace_of_selects (args := #[]) (mvT hZ (ow_138 hw))) (ow_138 hw) (ow_137 hw) (by decide) (cc := 0) (ss := 0) (own_chB (W := 0) hZ hw (i := 4) S_r (Nat.le_of_ble_eq_true rfl) S_cs P5 S_f rf (Nat.le_of_ble_eq_true rfl) rfl (by decide) (by decide)) rfl A_r (argsL := [(.int (4 : Int32))]) (rest := []) opd_14 rfl rfl (Nat.le_refl _) at_271 (pc' := 274) rfl rfl e198 (by decide) (by decide) ?_
            rintro v199 T199 h199 L199 X199 e199 ⟨hv199, hl199, hh199⟩
            rw [(show List.getD ([(own_pl ((p1.toUInt32 >>> ((3 : Int32) &&& 31).toUInt32).toInt32)), (own_me (p2 &&& (7 : Int32))), (own_pl ((p3.toUInt32 >>> ((3 : Int32) &&& 31).toUInt32).toInt32)), (own_pl (((pf.toUInt64 >>> ((8 : Int32) &&& 0x3f).toInt64.toUInt64).toInt64).toInt32)), (own_pl (((pf.toUInt64 >>> ((16 : Int32) &&& 0x3f).toInt64.toUInt64).toInt64).toInt32))] : List Int32) 4 0 = (own_pl (((pf.toUInt64 >>> ((16 : Int32) &&& 0x3f).toInt64.toUInt64).toInt64).toInt32)) from rfl)] at hv199
            subst hl199
            obtain rfl := hh199.symm
            obtain rfl := hv199
            have N199 := N198.app (Fr.nil n0)
            refine own_aload X199 hx hby at_274 (pc' := 276) rfl rfl rfl ?_
            refine own_iload X199 hx hby at_276 (pc' := 278) rfl rfl ?_
            refine own_iconst X199 hx hby at_278 (pc' := 279) rfl (z := 1) rfl ?_
            refine own_iadd X199 hx hby at_279 (pc' := 280) rfl ?_
            refine own_caloadV X199 hx hby hZ e199 V178_b166 ⟨by decide, by decide⟩ (v := (.int (own_pl (((pf.toUInt64 >>> ((16 : Int32) &&& 0x3f).toInt64.toUInt64).toInt64).toInt32)))) rfl at_280 (pc' := 281) rfl ?_
            refine own_icmpN X199 hx hby at_281 (pc' := 284) rfl (teq rfl).2 ?_
            refine own_iconst X199 hx hby at_284 (pc' := 285) rfl (z := 1) rfl ?_
            refine own_goto X199 hx hby at_285 (by decide) (pc' := 289) (by decide) ?_
            refine own_istore X199 hx hby at_289 (pc' := 291) rfl (Ls' := #[.val (.int p1), .val (.int p2), .val (.int p3), .val (.long pf), .second, .val (.int p4), .val (.int q), .val (.ref b166), .val (.int (1 : Int32)), .val (.int (3 : Int32)), .val (.int (4 : Int32)), .val (.ref r), .val (.int ((9 : Int32) - (4 : Int32))), .val (.int (1 : Int32))]) rfl ?_
            refine own_iload X199 hx hby at_291 (pc' := 293) rfl rfl ?_
            refine own_iconst X199 hx hby at_293 (pc' := 294) rfl (z := 5) rfl ?_
            refine own_icmpY X199 hx hby at_294 (by decide) (pc' := 325) (by decide) (flt (by decide)).2.2.2 ?_
            refine own_iload X199 hx hby at_325 (pc' := 327) rfl rfl ?_
            exact own_retNW X199 hx hby hZ (own_ew hw) e199 SN187 CH187 hlk hrt (by simp) at_327 (z' := (1 : Int32)) rfl ⟨rfl, N199⟩ (by decide) (by decide)
        · by_cases h2_ : (p3 &&& (7 : Int32)) < (4 : Int32)
          · refine own_newP (aty := .char) X0 hx hby hZ (ow_104 hw) e0 at_60 (pc' := 62) rfl (by decide) (cap := 6) (by decide) (by decide) (by decide) (by decide) ?_
            intro T200 h200 b200 kA200 g200 X200 e200 E200 V_b200
            have le201 : h0.size ≤ b200 := Nat.le_of_eq g200.symm
            have n0_b200 : n0 ≤ b200 := Nat.le_trans Z0 (Nat.le_of_eq g200.symm)
            replace V_b200 : Arv Z h200 b200 kA200 .char (6 : Int32) [(.int (0 : Int32)), (.int (0 : Int32)), (.int (0 : Int32)), (.int (0 : Int32)), (.int (0 : Int32)), (.int (0 : Int32))] (.int (0 : Int32)) := V_b200.pad (pad_rep [] (.int (0 : Int32)) 6)
            refine own_astore X200 hx hby at_62 (pc' := 64) rfl rfl (Ls' := #[.val (.int p1), .val (.int p2), .val (.int p3), .val (.long pf), .second, .val (.int p4), .val (.int q), .val (.ref b200), .unset, .unset, .unset, .unset, .unset, .unset]) rfl ?_
            refine own_aload X200 hx hby at_64 (pc' := 66) rfl rfl rfl ?_
            refine own_iconst X200 hx hby at_66 (pc' := 67) rfl (z := 0) rfl ?_
            refine own_iloadN X200 hx hby at_67 (pc' := 68) rfl rfl ?_
            refine own_callM X200 hx hby hml hZ hown (ow_105 hw) (ow_106 hw) (ow_107 hw) (ow_108 hw) (by decide) (cc := 0) (ss := 0) (rm_put0_0 l Z a0 hw b200 p1 (.int (0 : Int32)) (.int (0 : Int32)) (.int (0 : Int32)) (.int (0 : Int32)) (.int (0 : Int32)) (.int (0 : Int32)) kA200 h200 n0 (Nat.le_trans Z0 E200.1) n0_b200 V_b200 h0_) 0 rfl rfl (by decide) (by decide) rfl (argsL := [(.ref b200), (.int (0 : Int32)), (.int p1)]) (rest := []) opd_20 rfl rfl (Nat.le_refl _) at_68 (pc' := 71) rfl rfl e200 (by decide) (by decide) ?_
            rintro v202 T202 h202 L202 X202 e202 ⟨rfl, Nq202, Kq202, Vq202⟩
            have N202 := N0.app Nq202
            have Ea203 := own_xk E200 Kq202 (allS le201 all0)
            refine own_istore X202 hx hby at_71 (pc' := 73) rfl (Ls' := #[.val (.int p1), .val (.int p2), .val (.int p3), .val (.long pf), .second, .val (.int p4), .val (.int q), .val (.ref b200), .val (.int (1 : Int32)), .unset, .unset, .unset, .unset, .unset]) rfl ?_
            refine own_aload X202 hx hby at_73 (pc' := 75) rfl rfl rfl ?_
            refine own_iload X202 hx hby at_75 (pc' := 77) rfl rfl ?_
            refine own_iloadN X202 hx hby at_77 (pc' := 78) rfl rfl ?_
            refine own_callM X202 hx hby hml hZ hown (ow_105 hw) (ow_106 hw) (ow_107 hw) (ow_108 hw) (by decide) (cc := 0) (ss := 0) (rm_put0_1 l Z a0 hw b200 p2 (.int (own_pl ((p1.toUInt32 >>> ((3 : Int32) &&& 31).toUInt32).toInt32))) (.int (0 : Int32)) (.int (0 : Int32)) (.int (0 : Int32)) (.int (0 : Int32)) (.int (0 : Int32)) kA200 h202 n0 (Nat.le_trans Z0 Ea203.1) n0_b200 Vq202 h1_) 0 rfl rfl (by decide) (by decide) rfl (argsL := [(.ref b200), (.int (1 : Int32)), (.int p2)]) (rest := []) opd_20 rfl rfl (Nat.le_refl _) at_78 (pc' := 81) rfl rfl e202 (by decide) (by decide) ?_
            rintro v204 T204 h204 L204 X204 e204 ⟨rfl, Nq204, Kq204, Vq204⟩
            have N204 := N202.app Nq204
            have Ea205 := own_xk Ea203 Kq204 (allS le201 all0)
            refine own_istore X204 hx hby at_81 (pc' := 83) rfl (Ls' := #[.val (.int p1), .val (.int p2), .val (.int p3), .val (.long pf), .second, .val (.int p4), .val (.int q), .val (.ref b200), .val (.int (1 : Int32)), .val (.int (2 : Int32)), .unset, .unset, .unset, .unset]) rfl ?_
            refine own_aload X204 hx hby at_83 (pc' := 85) rfl rfl rfl ?_
            refine own_iload X204 hx hby at_85 (pc' := 87) rfl rfl ?_
            refine own_iloadN X204 hx hby at_87 (pc' := 88) rfl rfl ?_
            refine own_callM X204 hx hby hml hZ hown (ow_105 hw) (ow_106 hw) (ow_107 hw) (ow_108 hw) (by decide) (cc := 0) (ss := 0) (rm_put1_2 l Z a0 hw b200 p3 (.int (own_pl ((p1.toUInt32 >>> ((3 : Int32) &&& 31).toUInt32).toInt32))) (.int (own_pl ((p2.toUInt32 >>> ((3 : Int32) &&& 31).toUInt32).toInt32))) (.int (0 : Int32)) (.int (0 : Int32)) (.int (0 : Int32)) (.int (0 : Int32)) kA200 h204 n0 (Nat.le_trans Z0 Ea205.1) n0_b200 Vq204 h2_) 0 rfl rfl (by decide) (by decide) rfl (argsL := [(.ref b200), (.int (2 : Int32)), (.int p3)]) (rest := []) opd_20 rfl rfl (Nat.le_refl _) at_88 (pc' := 91) rfl rfl e204 (by decide) (by decide) ?_
            rintro v206 T206 h206 L206 X206 e206 ⟨rfl, Nq206, Kq206, Vq206⟩
            have N206 := N204.app Nq206
            have Ea207 := own_xk Ea205 Kq206 (allS le201 all0)
            refine own_istore X206 hx hby at_91 (pc' := 93) rfl (Ls' := #[.val (.int p1), .val (.int p2), .val (.int p3), .val (.long pf), .second, .val (.int p4), .val (.int q), .val (.ref b200), .val (.int (1 : Int32)), .val (.int (2 : Int32)), .val (.int (4 : Int32)), .unset, .unset, .unset]) rfl ?_
            refine own_iload X206 hx hby at_93 (pc' := 95) rfl rfl ?_
            refine own_iconst X206 hx hby at_95 (pc' := 96) rfl (z := 3) rfl ?_
            refine own_icmpY X206 hx hby at_96 (by decide) (pc' := 108) (by decide) (tlt (by decide)).2.2.1 ?_
            refine own_iload X206 hx hby at_108 (pc' := 110) rfl rfl ?_
            refine own_iconst X206 hx hby at_110 (pc' := 111) rfl (z := 4) rfl ?_
            refine own_icmpN X206 hx hby at_111 (pc' := 114) rfl (flt (by decide)).2.2.1 ?_
            refine own_aload X206 hx hby at_114 (pc' := 116) rfl rfl rfl ?_
            refine own_iconst X206 hx hby at_116 (pc' := 117) rfl (z := 4) rfl ?_
            refine own_lloadN X206 hx hby at_117 (pc' := 118) rfl rfl ?_
            refine own_bipush X206 hx hby at_118 (pc' := 120) rfl (z := 8) rfl ?_
            refine own_lushr X206 hx hby at_120 (pc' := 121) rfl ?_
            refine own_l2i X206 hx hby at_121 (pc' := 122) rfl ?_
            refine own_callM X206 hx hby hml hZ hown (ow_115 hw) (ow_116 hw) (ow_107 hw) (ow_117 hw) (by decide) (cc := 0) (ss := 0) (rm_plain l Z a0 hw (((pf.toUInt64 >>> ((8 : Int32) &&& 0x3f).toInt64.toUInt64).toInt64).toInt32) h206 n0 (Nat.le_trans Z0 Ea207.1)) 2 rfl rfl (by decide) (by decide) rfl (argsL := [(.int (((pf.toUInt64 >>> ((8 : Int32) &&& 0x3f).toInt64.toUInt64).toInt64).toInt32))]) (rest := [(.int (4 : Int32)), (.ref b200)]) opd_14 rfl rfl (Nat.le_refl _) at_122 (pc' := 125) rfl rfl e206 (by decide) (by decide) ?_
            rintro v208 T208 h208 L208 X208 e208 ⟨_, rfl, rfl, Nq208, rfl⟩
            have N208 := N206.app Nq208
            refine own_stC X208 hx hby hZ e208 Vq206 ⟨by decide, by decide⟩ 4 rfl (Nat.le_of_ble_eq_true rfl) at_125 (pc' := 126) rfl ?_
            intro T209 h209 X209 e209 W209 V209_b200
            replace V209_b200 : Arv Z h209 b200 kA200 .char (6 : Int32) [(.int (own_pl ((p1.toUInt32 >>> ((3 : Int32) &&& 31).toUInt32).toInt32))), (.int (own_pl ((p2.toUInt32 >>> ((3 : Int32) &&& 31).toUInt32).toInt32))), (.int (92 : Int32)), (.int (own_le (p3 &&& (7 : Int32)))), (.int (nar .char (own_pl (((pf.toUInt64 >>> ((8 : Int32) &&& 0x3f).toInt64.toUInt64).toInt64).toInt32)))), (.int (0 : Int32))] (.int (0 : Int32)) := V209_b200
            have Ea210 := own_xw Ea207 W209 le201
            have N209 := own_fr1 (sl := ((4 : Int32)).toNatClampNeg) N208 n0_b200
            rw [own_pl_n] at V209_b200
            refine own_iload X209 hx hby at_126 (pc' := 128) rfl rfl ?_
            refine own_iconst X209 hx hby at_128 (pc' := 129) rfl (z := 5) rfl ?_
            refine own_icmpN X209 hx hby at_129 (pc' := 132) rfl (flt (by decide)).2.2.1 ?_
            refine own_aload X209 hx hby at_132 (pc' := 134) rfl rfl rfl ?_
            refine own_iconst X209 hx hby at_134 (pc' := 135) rfl (z := 5) rfl ?_
            refine own_lloadN X209 hx hby at_135 (pc' := 136) rfl rfl ?_
            refine own_bipush X209 hx hby at_136 (pc' := 138) rfl (z := 16) rfl ?_
            refine own_lushr X209 hx hby at_138 (pc' := 139) rfl ?_
            refine own_l2i X209 hx hby at_139 (pc' := 140) rfl ?_
            refine own_callM X209 hx hby hml hZ hown (ow_115 hw) (ow_116 hw) (ow_107 hw) (ow_117 hw) (by decide) (cc := 0) (ss := 0) (rm_plain l Z a0 hw (((pf.toUInt64 >>> ((16 : Int32) &&& 0x3f).toInt64.toUInt64).toInt64).toInt32) h209 n0 (Nat.le_trans Z0 Ea210.1)) 2 rfl rfl (by decide) (by decide) rfl (argsL := [(.int (((pf.toUInt64 >>> ((16 : Int32) &&& 0x3f).toInt64.toUInt64).toInt64).toInt32))]) (rest := [(.int (5 : Int32)), (.ref b200)]) opd_14 rfl rfl (Nat.le_refl _) at_140 (pc' := 143) rfl rfl e209 (by decide) (by decide) ?_
            rintro v211 T211 h211 L211 X211 e211 ⟨_, rfl, rfl, Nq211, rfl⟩
            have N211 := N209.app Nq211
            refine own_stC X211 hx hby hZ e211 V209_b200 ⟨by decide, by decide⟩ 5 rfl (Nat.le_of_ble_eq_true rfl) at_143 (pc' := 144) rfl ?_
            intro T212 h212 X212 e212 W212 V212_b200
            replace V212_b200 : Arv Z h212 b200 kA200 .char (6 : Int32) [(.int (own_pl ((p1.toUInt32 >>> ((3 : Int32) &&& 31).toUInt32).toInt32))), (.int (own_pl ((p2.toUInt32 >>> ((3 : Int32) &&& 31).toUInt32).toInt32))), (.int (92 : Int32)), (.int (own_le (p3 &&& (7 : Int32)))), (.int (own_pl (((pf.toUInt64 >>> ((8 : Int32) &&& 0x3f).toInt64.toUInt64).toInt64).toInt32))), (.int (nar .char (own_pl (((pf.toUInt64 >>> ((16 : Int32) &&& 0x3f).toInt64.toUInt64).toInt64).toInt32))))] (.int (0 : Int32)) := V212_b200
            have Ea213 := own_xw Ea210 W212 le201
            have N212 := own_fr1 (sl := ((5 : Int32)).toNatClampNeg) N211 n0_b200
            rw [own_pl_n] at V212_b200
            refine own_newO X212 hx hby hZ hown (ow_118 hw) (ow_2 hw) (ow_1 hw) e212 at_144 (pc' := 147) rfl (by decide) (by decide) ?_
            intro T214 h214 b214 g214 X214 e214 E214 AX214 D214
            have le215 : h0.size ≤ b214 := Nat.le_trans Ea213.1 (Nat.le_of_eq g214.symm)
            have le216 : h212.size ≤ b214 := Nat.le_of_eq g214.symm
            have n0_b214 : n0 ≤ b214 := Nat.le_trans (Nat.le_trans Z0 Ea213.1) (Nat.le_of_eq g214.symm)
            have Ea217 := own_xt Ea213 E214
            have F_value_b214 : Fld Z h214 b214 "java/lang/String" "value" "[B" .null := D214 (Or.inr (ow_4 hw)) (ty := (.array .byte)) (by decide)
            have F_coder_b214 : Fld Z h214 b214 "java/lang/String" "coder" "B" (.int (0 : Int32)) := D214 (Or.inr (ow_5 hw)) (ty := .byte) (by decide)
            refine own_dup X214 hx hby at_147 (pc' := 148) rfl rfl ?_
            refine own_aload X214 hx hby at_148 (pc' := 150) rfl rfl rfl ?_
            have hp2 : ∀ c ∈ ([(own_pl ((p1.toUInt32 >>> ((3 : Int32) &&& 31).toUInt32).toInt32)), (own_pl ((p2.toUInt32 >>> ((3 : Int32) &&& 31).toUInt32).toInt32)), (92 : Int32), (own_le (p3 &&& (7 : Int32))), (own_pl (((pf.toUInt64 >>> ((8 : Int32) &&& 0x3f).toInt64.toUInt64).toInt64).toInt32)), (own_pl (((pf.toUInt64 >>> ((16 : Int32) &&& 0x3f).toInt64.toUInt64).toInt64).toInt32))] : List Int32), ¬ c < 0 ∧ ¬ (255 : Int32) < c := (own_allC (own_pl_b _) (own_allC (own_pl_b _) (own_allC ⟨by decide, by decide⟩ (own_allC (own_le_b _) (own_allC (own_pl_b _) (own_allC (own_pl_b _) own_all0))))))
            refine own_spec X214 hx hby hml hZ hown rfl (ow_119 hw) (ow_120 hw) (ow_121 hw) (by decide) (cc := 1) (ss := 6) (StrChars.Road.backV (W := 1) hZ (own_hws hw) (kI := 4) (ow_2 hw) (cs := [(own_pl ((p1.toUInt32 >>> ((3 : Int32) &&& 31).toUInt32).toInt32)), (own_pl ((p2.toUInt32 >>> ((3 : Int32) &&& 31).toUInt32).toInt32)), (92 : Int32), (own_le (p3 &&& (7 : Int32))), (own_pl (((pf.toUInt64 >>> ((8 : Int32) &&& 0x3f).toInt64.toUInt64).toInt64).toInt32)), (own_pl (((pf.toUInt64 >>> ((16 : Int32) &&& 0x3f).toInt64.toUInt64).toInt64).toInt32))]) (bs := ([(own_pl ((p1.toUInt32 >>> ((3 : Int32) &&& 31).toUInt32).toInt32)), (own_pl ((p2.toUInt32 >>> ((3 : Int32) &&& 31).toUInt32).toInt32)), (92 : Int32), (own_le (p3 &&& (7 : Int32))), (own_pl (((pf.toUInt64 >>> ((8 : Int32) &&& 0x3f).toInt64.toUInt64).toInt64).toInt32)), (own_pl (((pf.toUInt64 >>> ((16 : Int32) &&& 0x3f).toInt64.toUInt64).toInt64).toInt32))] : List Int32).map (fun c => c.toInt8.toInt32)) (n := 6) n0_b214 (Nat.le_trans Z0 Ea217.1) AX214 F_value_b214 F_coder_b214 (V212_b200.ext E214) (S_cs.ext Ea217) P5 rfl rfl (by decide) (by decide) hp2 rfl (by decide) (by decide)) rfl (argsL := [(.ref b200)]) (rest := [(.ref b214)]) opd_21 rfl rfl (Nat.le_refl _) at_150 (pc' := 153) rfl rfl e214 (by decide) (by decide) ?_
            rintro v218 T218 h218 L218 X218 e218 ⟨rfl, Nq218, Kq218, Aq218, Cq218, t218, kb218, _, _, _, Vq218, Bq218⟩
            have N218 := N212.app Nq218
            have Ea219 := own_xk Ea217 Kq218 (allS le215 all0)
            have Ea220 := own_xk E214 Kq218 (allS le216 all0)
            replace SN := SN.ext Ea219
            replace CH := CH.ext Ea219
            replace S_cs := S_cs.ext Ea219
            replace S_f := S_f.ext Ea219
            replace V212_b200 := V212_b200.ext Ea220
            have S_b214 : own_Str Z h218 b214 [(own_pl ((p1.toUInt32 >>> ((3 : Int32) &&& 31).toUInt32).toInt32)), (own_pl ((p2.toUInt32 >>> ((3 : Int32) &&& 31).toUInt32).toInt32)), (92 : Int32), (own_le (p3 &&& (7 : Int32))), (own_pl (((pf.toUInt64 >>> ((8 : Int32) &&& 0x3f).toInt64.toUInt64).toInt64).toInt32)), (own_pl (((pf.toUInt64 >>> ((16 : Int32) &&& 0x3f).toInt64.toUInt64).toInt64).toInt32))] := ⟨Aq218, Cq218, hp2, t218, kb218, Vq218, Bq218⟩
            have A_b214 := S_b214.exa
            refine own_ldcO X218 hx hby hZ hown SN CH (own_ew hw) (own_ws hw) (ow_8 hw) e218 at_153 (pc' := 155) rfl (n := 40) (by decide) (by decide) (by decide) (by decide) ?_
            intro T221 vm221 h221 q221 X221 e221 hZ hown SN221 CH221 E221
            have Ea222 := own_xt Ea219 E221
            replace S_cs := S_cs.ext E221
            replace S_f := S_f.ext E221
            replace V212_b200 := V212_b200.ext E221
            replace S_b214 := S_b214.ext E221
            replace A_b214 := A_b214.ext E221
            refine own_callM X221 hx hby hml hZ hown (ow_9 hw) (ow_10 hw) (ow_11 hw) (ow_12 hw) (by decide) (cc := 4) (ss := 20) (rm_une l Z a0 hw b214 q221 [(own_pl ((p1.toUInt32 >>> ((3 : Int32) &&& 31).toUInt32).toInt32)), (own_pl ((p2.toUInt32 >>> ((3 : Int32) &&& 31).toUInt32).toInt32)), (92 : Int32), (own_le (p3 &&& (7 : Int32))), (own_pl (((pf.toUInt64 >>> ((8 : Int32) &&& 0x3f).toInt64.toUInt64).toInt64).toInt32)), (own_pl (((pf.toUInt64 >>> ((16 : Int32) &&& 0x3f).toInt64.toUInt64).toInt64).toInt32))] [(own_pl ((p1.toUInt32 >>> ((3 : Int32) &&& 31).toUInt32).toInt32)), (own_pl ((p2.toUInt32 >>> ((3 : Int32) &&& 31).toUInt32).toInt32)), (own_me (p3 &&& (7 : Int32))), (own_pl (((pf.toUInt64 >>> ((8 : Int32) &&& 0x3f).toInt64.toUInt64).toInt64).toInt32)), (own_pl (((pf.toUInt64 >>> ((16 : Int32) &&& 0x3f).toInt64.toUInt64).toInt64).toInt32))] [((own_pl ((p1.toUInt32 >>> ((3 : Int32) &&& 31).toUInt32).toInt32)), none), ((own_pl ((p2.toUInt32 >>> ((3 : Int32) &&& 31).toUInt32).toInt32)), none), ((own_le (p3 &&& (7 : Int32))), some (own_me (p3 &&& (7 : Int32)))), ((own_pl (((pf.toUInt64 >>> ((8 : Int32) &&& 0x3f).toInt64.toUInt64).toInt64).toInt32)), none), ((own_pl (((pf.toUInt64 >>> ((16 : Int32) &&& 0x3f).toInt64.toUInt64).toInt64).toInt32)), none)] G1 fm h221 n0 (Nat.le_trans Z0 Ea222.1) S_cs P5 S_f rf S_b214 (Nat.le_of_ble_eq_true rfl) (own_allC (own_okp _) (own_allC (own_okp _) (own_allC (own_oke h2_) (own_allC (own_okp _) (own_allC (own_okp _) own_all0))))) rfl rfl) 0 rfl rfl (by decide) (by decide) rfl (argsL := [(.ref b214), (.ref q221)]) (rest := []) opd_17 rfl rfl (Nat.le_refl _) at_155 (pc' := 158) rfl rfl e221 (by decide) (by decide) ?_
            rintro v223 T223 h223 L223 X223 e223 ⟨r, rfl, Eq223, Nq223, S_r⟩
            have N223 := N218.app Nq223
            have Ea224 := own_xt Ea222 Eq223
            replace S_cs := S_cs.ext Eq223
            replace S_f := S_f.ext Eq223
            replace V212_b200 := V212_b200.ext Eq223
            replace S_b214 := S_b214.ext Eq223
            replace A_b214 := A_b214.ext Eq223
            replace SN221 := SN221.ext Eq223
            replace CH221 := CH221.ext Eq223
            have A_r := S_r.exa
            refine own_astore X223 hx hby at_158 (pc' := 160) rfl rfl (Ls' := #[.val (.int p1), .val (.int p2), .val (.int p3), .val (.long pf), .second, .val (.int p4), .val (.int q), .val (.ref b200), .val (.int (1 : Int32)), .val (.int (2 : Int32)), .val (.int (4 : Int32)), .val (.ref r), .unset, .unset]) rfl ?_
            refine own_bipush X223 hx hby at_160 (pc' := 162) rfl (z := 9) rfl ?_
            refine own_iload X223 hx hby at_162 (pc' := 164) rfl rfl ?_
            refine own_isub X223 hx hby at_164 (pc' := 165) rfl ?_
            refine own_istore X223 hx hby at_165 (pc' := 167) rfl (Ls' := #[.val (.int p1), .val (.int p2), .val (.int p3), .val (.long pf), .second, .val (.int p4), .val (.int q), .val (.ref b200), .val (.int (1 : Int32)), .val (.int (2 : Int32)), .val (.int (4 : Int32)), .val (.ref r), .val (.int ((9 : Int32) - (4 : Int32))), .unset]) rfl ?_
            refine own_aload X223 hx hby at_167 (pc' := 169) rfl rfl rfl ?_
            refine own_virt X223 hx hby hml hZ hown (ow_188 hw) (ow_17 hw) (notFace_of_selects (args := #[]) (mvT hZ (ow_19 hw))) (ow_19 hw) (ow_18 hw) (by decide) (cc := 0) (ss := 0) (own_lenB (W := 0) hZ hw S_r (Nat.le_of_ble_eq_true rfl) S_cs P5 (by decide) (by decide)) rfl A_r (argsL := []) (rest := []) opd_3 rfl rfl (Nat.le_refl _) at_169 (pc' := 172) rfl rfl e223 (by decide) (by decide) ?_
            rintro v225 T225 h225 L225 X225 e225 ⟨hv225, hl225, hh225⟩
            subst hl225
            obtain rfl := hh225.symm
            obtain rfl := hv225
            have N225 := N223.app (Fr.nil n0)
            refine own_iload X225 hx hby at_172 (pc' := 174) rfl rfl ?_
            refine own_icmpY X225 hx hby at_174 (by decide) (pc' := 179) (by decide) (teq (show Int32.ofNat 5 = (9 : Int32) - (4 : Int32) from by decide)).1 ?_
            refine own_aload X225 hx hby at_179 (pc' := 181) rfl rfl rfl ?_
            refine own_iconst X225 hx hby at_181 (pc' := 182) rfl (z := 0) rfl ?_
            refine own_virt X225 hx hby hml hZ hown (ow_189 hw) (ow_136 hw) (notFace_of_selects (args := #[]) (mvT hZ (ow_138 hw))) (ow_138 hw) (ow_137 hw) (by decide) (cc := 0) (ss := 0) (own_chB (W := 0) hZ hw (i := 0) S_r (Nat.le_of_ble_eq_true rfl) S_cs P5 S_f rf (Nat.le_of_ble_eq_true rfl) rfl (by decide) (by decide)) rfl A_r (argsL := [(.int (0 : Int32))]) (rest := []) opd_14 rfl rfl (Nat.le_refl _) at_182 (pc' := 185) rfl rfl e225 (by decide) (by decide) ?_
            rintro v226 T226 h226 L226 X226 e226 ⟨hv226, hl226, hh226⟩
            rw [(show List.getD ([(own_pl ((p1.toUInt32 >>> ((3 : Int32) &&& 31).toUInt32).toInt32)), (own_pl ((p2.toUInt32 >>> ((3 : Int32) &&& 31).toUInt32).toInt32)), (own_me (p3 &&& (7 : Int32))), (own_pl (((pf.toUInt64 >>> ((8 : Int32) &&& 0x3f).toInt64.toUInt64).toInt64).toInt32)), (own_pl (((pf.toUInt64 >>> ((16 : Int32) &&& 0x3f).toInt64.toUInt64).toInt64).toInt32))] : List Int32) 0 0 = (own_pl ((p1.toUInt32 >>> ((3 : Int32) &&& 31).toUInt32).toInt32)) from rfl)] at hv226
            subst hl226
            obtain rfl := hh226.symm
            obtain rfl := hv226
            have N226 := N225.app (Fr.nil n0)
            refine own_iloadN X226 hx hby at_185 (pc' := 186) rfl rfl ?_
            refine own_callM X226 hx hby hml hZ hown (ow_190 hw) (ow_191 hw) (ow_107 hw) (ow_192 hw) (by decide) (cc := 0) (ss := 0) (rm_out0 l Z a0 hw p1 h223 n0 (Nat.le_trans Z0 Ea224.1) h0_) 1 rfl rfl (by decide) (by decide) rfl (argsL := [(.int p1)]) (rest := [(.int (own_pl ((p1.toUInt32 >>> ((3 : Int32) &&& 31).toUInt32).toInt32)))]) opd_14 rfl rfl (Nat.le_refl _) at_186 (pc' := 189) rfl rfl e226 (by decide) (by decide) ?_
            rintro v227 T227 h227 L227 X227 e227 ⟨rfl, Nq227, rfl⟩
            have N227 := N226.app Nq227
            refine own_icmpN X227 hx hby at_189 (pc' := 192) rfl (teq rfl).2 ?_
            refine own_aload X227 hx hby at_192 (pc' := 194) rfl rfl rfl ?_
            refine own_iconst X227 hx hby at_194 (pc' := 195) rfl (z := 1) rfl ?_
            refine own_virt X227 hx hby hml hZ hown (ow_189 hw) (ow_136 hw) (notFace_of_selects (args := #[]) (mvT hZ (ow_138 hw))) (ow_138 hw) (ow_137 hw) (by decide) (cc := 0) (ss := 0) (own_chB (W := 0) hZ hw (i := 1) S_r (Nat.le_of_ble_eq_true rfl) S_cs P5 S_f rf (Nat.le_of_ble_eq_true rfl) rfl (by decide) (by decide)) rfl A_r (argsL := [(.int (1 : Int32))]) (rest := []) opd_14 rfl rfl (Nat.le_refl _) at_195 (pc' := 198) rfl rfl e227 (by decide) (by decide) ?_
            rintro v228 T228 h228 L228 X228 e228 ⟨hv228, hl228, hh228⟩
            rw [(show List.getD ([(own_pl ((p1.toUInt32 >>> ((3 : Int32) &&& 31).toUInt32).toInt32)), (own_pl ((p2.toUInt32 >>> ((3 : Int32) &&& 31).toUInt32).toInt32)), (own_me (p3 &&& (7 : Int32))), (own_pl (((pf.toUInt64 >>> ((8 : Int32) &&& 0x3f).toInt64.toUInt64).toInt64).toInt32)), (own_pl (((pf.toUInt64 >>> ((16 : Int32) &&& 0x3f).toInt64.toUInt64).toInt64).toInt32))] : List Int32) 1 0 = (own_pl ((p2.toUInt32 >>> ((3 : Int32) &&& 31).toUInt32).toInt32)) from rfl)] at hv228
            subst hl228
            obtain rfl := hh228.symm
            obtain rfl := hv228
            have N228 := N227.app (Fr.nil n0)
            refine own_iloadN X228 hx hby at_198 (pc' := 199) rfl rfl ?_
            refine own_callM X228 hx hby hml hZ hown (ow_190 hw) (ow_191 hw) (ow_107 hw) (ow_192 hw) (by decide) (cc := 0) (ss := 0) (rm_out0 l Z a0 hw p2 h223 n0 (Nat.le_trans Z0 Ea224.1) h1_) 1 rfl rfl (by decide) (by decide) rfl (argsL := [(.int p2)]) (rest := [(.int (own_pl ((p2.toUInt32 >>> ((3 : Int32) &&& 31).toUInt32).toInt32)))]) opd_14 rfl rfl (Nat.le_refl _) at_199 (pc' := 202) rfl rfl e228 (by decide) (by decide) ?_
            rintro v229 T229 h229 L229 X229 e229 ⟨rfl, Nq229, rfl⟩
            have N229 := N228.app Nq229
            refine own_icmpN X229 hx hby at_202 (pc' := 205) rfl (teq rfl).2 ?_
            refine own_aload X229 hx hby at_205 (pc' := 207) rfl rfl rfl ?_
            refine own_iconst X229 hx hby at_207 (pc' := 208) rfl (z := 2) rfl ?_
            refine own_virt X229 hx hby hml hZ hown (ow_189 hw) (ow_136 hw) (notFace_of_selects (args := #[]) (mvT hZ (ow_138 hw))) (ow_138 hw) (ow_137 hw) (by decide) (cc := 0) (ss := 0) (own_chB (W := 0) hZ hw (i := 2) S_r (Nat.le_of_ble_eq_true rfl) S_cs P5 S_f rf (Nat.le_of_ble_eq_true rfl) rfl (by decide) (by decide)) rfl A_r (argsL := [(.int (2 : Int32))]) (rest := []) opd_14 rfl rfl (Nat.le_refl _) at_208 (pc' := 211) rfl rfl e229 (by decide) (by decide) ?_
            rintro v230 T230 h230 L230 X230 e230 ⟨hv230, hl230, hh230⟩
            rw [(show List.getD ([(own_pl ((p1.toUInt32 >>> ((3 : Int32) &&& 31).toUInt32).toInt32)), (own_pl ((p2.toUInt32 >>> ((3 : Int32) &&& 31).toUInt32).toInt32)), (own_me (p3 &&& (7 : Int32))), (own_pl (((pf.toUInt64 >>> ((8 : Int32) &&& 0x3f).toInt64.toUInt64).toInt64).toInt32)), (own_pl (((pf.toUInt64 >>> ((16 : Int32) &&& 0x3f).toInt64.toUInt64).toInt64).toInt32))] : List Int32) 2 0 = (own_me (p3 &&& (7 : Int32))) from rfl)] at hv230
            subst hl230
            obtain rfl := hh230.symm
            obtain rfl := hv230
            have N230 := N229.app (Fr.nil n0)
            refine own_iloadN X230 hx hby at_211 (pc' := 212) rfl rfl ?_
            refine own_callM X230 hx hby hml hZ hown (ow_190 hw) (ow_191 hw) (ow_107 hw) (ow_192 hw) (by decide) (cc := 0) (ss := 0) (rm_out1 l Z a0 hw p3 h223 n0 (Nat.le_trans Z0 Ea224.1) h2_) 1 rfl rfl (by decide) (by decide) rfl (argsL := [(.int p3)]) (rest := [(.int (own_me (p3 &&& (7 : Int32))))]) opd_14 rfl rfl (Nat.le_refl _) at_212 (pc' := 215) rfl rfl e230 (by decide) (by decide) ?_
            rintro v231 T231 h231 L231 X231 e231 ⟨rfl, Nq231, rfl⟩
            have N231 := N230.app Nq231
            refine own_icmpN X231 hx hby at_215 (pc' := 218) rfl (teq rfl).2 ?_
            refine own_iconst X231 hx hby at_218 (pc' := 219) rfl (z := 1) rfl ?_
            refine own_goto X231 hx hby at_219 (by decide) (pc' := 223) (by decide) ?_
            refine own_istore X231 hx hby at_223 (pc' := 225) rfl (Ls' := #[.val (.int p1), .val (.int p2), .val (.int p3), .val (.long pf), .second, .val (.int p4), .val (.int q), .val (.ref b200), .val (.int (1 : Int32)), .val (.int (2 : Int32)), .val (.int (4 : Int32)), .val (.ref r), .val (.int ((9 : Int32) - (4 : Int32))), .val (.int (1 : Int32))]) rfl ?_
            refine own_iload X231 hx hby at_225 (pc' := 227) rfl rfl ?_
            refine own_iconst X231 hx hby at_227 (pc' := 228) rfl (z := 3) rfl ?_
            refine own_icmpN X231 hx hby at_228 (pc' := 231) rfl (tlt (by decide)).2.2.2 ?_
            refine own_iload X231 hx hby at_231 (pc' := 233) rfl rfl ?_
            refine own_ifN X231 hx hby at_233 (pc' := 236) rfl (feq (by decide)).1 ?_
            refine own_aload X231 hx hby at_236 (pc' := 238) rfl rfl rfl ?_
            refine own_iconst X231 hx hby at_238 (pc' := 239) rfl (z := 3) rfl ?_
            refine own_virt X231 hx hby hml hZ hown (ow_189 hw) (ow_136 hw) (notFace_of_selects (args := #[]) (mvT hZ (ow_138 hw))) (ow_138 hw) (ow_137 hw) (by decide) (cc := 0) (ss := 0) (own_chB (W := 0) hZ hw (i := 3) S_r (Nat.le_of_ble_eq_true rfl) S_cs P5 S_f rf (Nat.le_of_ble_eq_true rfl) rfl (by decide) (by decide)) rfl A_r (argsL := [(.int (3 : Int32))]) (rest := []) opd_14 rfl rfl (Nat.le_refl _) at_239 (pc' := 242) rfl rfl e231 (by decide) (by decide) ?_
            rintro v232 T232 h232 L232 X232 e232 ⟨hv232, hl232, hh232⟩
            rw [(show List.getD ([(own_pl ((p1.toUInt32 >>> ((3 : Int32) &&& 31).toUInt32).toInt32)), (own_pl ((p2.toUInt32 >>> ((3 : Int32) &&& 31).toUInt32).toInt32)), (own_me (p3 &&& (7 : Int32))), (own_pl (((pf.toUInt64 >>> ((8 : Int32) &&& 0x3f).toInt64.toUInt64).toInt64).toInt32)), (own_pl (((pf.toUInt64 >>> ((16 : Int32) &&& 0x3f).toInt64.toUInt64).toInt64).toInt32))] : List Int32) 3 0 = (own_pl (((pf.toUInt64 >>> ((8 : Int32) &&& 0x3f).toInt64.toUInt64).toInt64).toInt32)) from rfl)] at hv232
            subst hl232
            obtain rfl := hh232.symm
            obtain rfl := hv232
            have N232 := N231.app (Fr.nil n0)
            refine own_aload X232 hx hby at_242 (pc' := 244) rfl rfl rfl ?_
            refine own_iload X232 hx hby at_244 (pc' := 246) rfl rfl ?_
            refine own_caloadV X232 hx hby hZ e232 V212_b200 ⟨by decide, by decide⟩ (v := (.int (own_pl (((pf.toUInt64 >>> ((8 : Int32) &&& 0x3f).toInt64.toUInt64).toInt64).toInt32)))) rfl at_246 (pc' := 247) rfl ?_
            refine own_icmpN X232 hx hby at_247 (pc' := 250) rfl (teq rfl).2 ?_
            refine own_iconst X232 hx hby at_250 (pc' := 251) rfl (z := 1) rfl ?_
            refine own_goto X232 hx hby at_251 (by decide) (pc' := 255) (by decide) ?_
            refine own_istore X232 hx hby at_255 (pc' := 257) rfl (Ls' := #[.val (.int p1), .val (.int p2), .val (.int p3), .val (.long pf), .second, .val (.int p4), .val (.int q), .val (.ref b200), .val (.int (1 : Int32)), .val (.int (2 : Int32)), .val (.int (4 : Int32)), .val (.ref r), .val (.int ((9 : Int32) - (4 : Int32))), .val (.int (1 : Int32))]) rfl ?_
            refine own_iload X232 hx hby at_257 (pc' := 259) rfl rfl ?_
            refine own_iconst X232 hx hby at_259 (pc' := 260) rfl (z := 4) rfl ?_
            refine own_icmpN X232 hx hby at_260 (pc' := 263) rfl (tlt (by decide)).2.2.2 ?_
            refine own_iload X232 hx hby at_263 (pc' := 265) rfl rfl ?_
            refine own_ifN X232 hx hby at_265 (pc' := 268) rfl (feq (by decide)).1 ?_
            refine own_aload X232 hx hby at_268 (pc' := 270) rfl rfl rfl ?_
            refine own_iconst X232 hx hby at_270 (pc' := 271) rfl (z := 4) rfl ?_
            refine own_virt X232 hx hby hml hZ hown (ow_189 hw) (ow_136 hw) (notFace_of_selects (args := #[]) (mvT hZ (ow_138 hw))) (ow_138 hw) (ow_137 hw) (by decide) (cc := 0) (ss := 0) (own_chB (W := 0) hZ hw (i := 4) S_r (Nat.le_of_ble_eq_true rfl) S_cs P5 S_f rf (Nat.le_of_ble_eq_true rfl) rfl (by decide) (by decide)) rfl A_r (argsL := [(.int (4 : Int32))]) (rest := []) opd_14 rfl rfl (Nat.le_refl _) at_271 (pc' := 274) rfl rfl e232 (by decide) (by decide) ?_
            rintro v233 T233 h233 L233 X233 e233 ⟨hv233, hl233, hh233⟩
            rw [(show List.getD ([(own_pl ((p1.toUInt32 >>> ((3 : Int32) &&& 31).toUInt32).toInt32)), (own_pl ((p2.toUInt32 >>> ((3 : Int32) &&& 31).toUInt32).toInt32)), (own_me (p3 &&& (7 : Int32))), (own_pl (((pf.toUInt64 >>> ((8 : Int32) &&& 0x3f).toInt64.toUInt64).toInt64).toInt32)), (own_pl (((pf.toUInt64 >>> ((16 : Int32) &&& 0x3f).toInt64.toUInt64).toInt64).toInt32))] : List Int32) 4 0 = (own_pl (((pf.toUInt64 >>> ((16 : Int32) &&& 0x3f).toInt64.toUInt64).toInt64).toInt32)) from rfl)] at hv233
            subst hl233
            obtain rfl := hh233.symm
            obtain rfl := hv233
            have N233 := N232.app (Fr.nil n0)
            refine own_aload X233 hx hby at_274 (pc' := 276) rfl rfl rfl ?_
            refine own_iload X233 hx hby at_276 (pc' := 278) rfl rfl ?_
            refine own_iconst X233 hx hby at_278 (pc' := 279) rfl (z := 1) rfl ?_
            refine own_iadd X233 hx hby at_279 (pc' := 280) rfl ?_
            refine own_caloadV X233 hx hby hZ e233 V212_b200 ⟨by decide, by decide⟩ (v := (.int (own_pl (((pf.toUInt64 >>> ((16 : Int32) &&& 0x3f).toInt64.toUInt64).toInt64).toInt32)))) rfl at_280 (pc' := 281) rfl ?_
            refine own_icmpN X233 hx hby at_281 (pc' := 284) rfl (teq rfl).2 ?_
            refine own_iconst X233 hx hby at_284 (pc' := 285) rfl (z := 1) rfl ?_
            refine own_goto X233 hx hby at_285 (by decide) (pc' := 289) (by decide) ?_
            refine own_istore X233 hx hby at_289 (pc' := 291) rfl (Ls' := #[.val (.int p1), .val (.int p2), .val (.int p3), .val (.long pf), .second, .val (.int p4), .val (.int q), .val (.ref b200), .val (.int (1 : Int32)), .val (.int (2 : Int32)), .val (.int (4 : Int32)), .val (.ref r), .val (.int ((9 : Int32) - (4 : Int32))), .val (.int (1 : Int32))]) rfl ?_
            refine own_iload X233 hx hby at_291 (pc' := 293) rfl rfl ?_
            refine own_iconst X233 hx hby at_293 (pc' := 294) rfl (z := 5) rfl ?_
            refine own_icmpY X233 hx hby at_294 (by decide) (pc' := 325) (by decide) (flt (by decide)).2.2.2 ?_
            refine own_iload X233 hx hby at_325 (pc' := 327) rfl rfl ?_
            exact own_retNW X233 hx hby hZ (own_ew hw) e233 SN221 CH221 hlk hrt (by simp) at_327 (z' := (1 : Int32)) rfl ⟨rfl, N233⟩ (by decide) (by decide)
          · refine own_newP (aty := .char) X0 hx hby hZ (ow_104 hw) e0 at_60 (pc' := 62) rfl (by decide) (cap := 6) (by decide) (by decide) (by decide) (by decide) ?_
            intro T234 h234 b234 kA234 g234 X234 e234 E234 V_b234
            have le235 : h0.size ≤ b234 := Nat.le_of_eq g234.symm
            have n0_b234 : n0 ≤ b234 := Nat.le_trans Z0 (Nat.le_of_eq g234.symm)
            replace V_b234 : Arv Z h234 b234 kA234 .char (6 : Int32) [(.int (0 : Int32)), (.int (0 : Int32)), (.int (0 : Int32)), (.int (0 : Int32)), (.int (0 : Int32)), (.int (0 : Int32))] (.int (0 : Int32)) := V_b234.pad (pad_rep [] (.int (0 : Int32)) 6)
            refine own_astore X234 hx hby at_62 (pc' := 64) rfl rfl (Ls' := #[.val (.int p1), .val (.int p2), .val (.int p3), .val (.long pf), .second, .val (.int p4), .val (.int q), .val (.ref b234), .unset, .unset, .unset, .unset, .unset, .unset]) rfl ?_
            refine own_aload X234 hx hby at_64 (pc' := 66) rfl rfl rfl ?_
            refine own_iconst X234 hx hby at_66 (pc' := 67) rfl (z := 0) rfl ?_
            refine own_iloadN X234 hx hby at_67 (pc' := 68) rfl rfl ?_
            refine own_callM X234 hx hby hml hZ hown (ow_105 hw) (ow_106 hw) (ow_107 hw) (ow_108 hw) (by decide) (cc := 0) (ss := 0) (rm_put0_0 l Z a0 hw b234 p1 (.int (0 : Int32)) (.int (0 : Int32)) (.int (0 : Int32)) (.int (0 : Int32)) (.int (0 : Int32)) (.int (0 : Int32)) kA234 h234 n0 (Nat.le_trans Z0 E234.1) n0_b234 V_b234 h0_) 0 rfl rfl (by decide) (by decide) rfl (argsL := [(.ref b234), (.int (0 : Int32)), (.int p1)]) (rest := []) opd_20 rfl rfl (Nat.le_refl _) at_68 (pc' := 71) rfl rfl e234 (by decide) (by decide) ?_
            rintro v236 T236 h236 L236 X236 e236 ⟨rfl, Nq236, Kq236, Vq236⟩
            have N236 := N0.app Nq236
            have Ea237 := own_xk E234 Kq236 (allS le235 all0)
            refine own_istore X236 hx hby at_71 (pc' := 73) rfl (Ls' := #[.val (.int p1), .val (.int p2), .val (.int p3), .val (.long pf), .second, .val (.int p4), .val (.int q), .val (.ref b234), .val (.int (1 : Int32)), .unset, .unset, .unset, .unset, .unset]) rfl ?_
            refine own_aload X236 hx hby at_73 (pc' := 75) rfl rfl rfl ?_
            refine own_iload X236 hx hby at_75 (pc' := 77) rfl rfl ?_
            refine own_iloadN X236 hx hby at_77 (pc' := 78) rfl rfl ?_
            refine own_callM X236 hx hby hml hZ hown (ow_105 hw) (ow_106 hw) (ow_107 hw) (ow_108 hw) (by decide) (cc := 0) (ss := 0) (rm_put0_1 l Z a0 hw b234 p2 (.int (own_pl ((p1.toUInt32 >>> ((3 : Int32) &&& 31).toUInt32).toInt32))) (.int (0 : Int32)) (.int (0 : Int32)) (.int (0 : Int32)) (.int (0 : Int32)) (.int (0 : Int32)) kA234 h236 n0 (Nat.le_trans Z0 Ea237.1) n0_b234 Vq236 h1_) 0 rfl rfl (by decide) (by decide) rfl (argsL := [(.ref b234), (.int (1 : Int32)), (.int p2)]) (rest := []) opd_20 rfl rfl (Nat.le_refl _) at_78 (pc' := 81) rfl rfl e236 (by decide) (by decide) ?_
            rintro v238 T238 h238 L238 X238 e238 ⟨rfl, Nq238, Kq238, Vq238⟩
            have N238 := N236.app Nq238
            have Ea239 := own_xk Ea237 Kq238 (allS le235 all0)
            refine own_istore X238 hx hby at_81 (pc' := 83) rfl (Ls' := #[.val (.int p1), .val (.int p2), .val (.int p3), .val (.long pf), .second, .val (.int p4), .val (.int q), .val (.ref b234), .val (.int (1 : Int32)), .val (.int (2 : Int32)), .unset, .unset, .unset, .unset]) rfl ?_
            refine own_aload X238 hx hby at_83 (pc' := 85) rfl rfl rfl ?_
            refine own_iload X238 hx hby at_85 (pc' := 87) rfl rfl ?_
            refine own_iloadN X238 hx hby at_87 (pc' := 88) rfl rfl ?_
            refine own_callM X238 hx hby hml hZ hown (ow_105 hw) (ow_106 hw) (ow_107 hw) (ow_108 hw) (by decide) (cc := 0) (ss := 0) (rm_put0_2 l Z a0 hw b234 p3 (.int (own_pl ((p1.toUInt32 >>> ((3 : Int32) &&& 31).toUInt32).toInt32))) (.int (own_pl ((p2.toUInt32 >>> ((3 : Int32) &&& 31).toUInt32).toInt32))) (.int (0 : Int32)) (.int (0 : Int32)) (.int (0 : Int32)) (.int (0 : Int32)) kA234 h238 n0 (Nat.le_trans Z0 Ea239.1) n0_b234 Vq238 h2_) 0 rfl rfl (by decide) (by decide) rfl (argsL := [(.ref b234), (.int (2 : Int32)), (.int p3)]) (rest := []) opd_20 rfl rfl (Nat.le_refl _) at_88 (pc' := 91) rfl rfl e238 (by decide) (by decide) ?_
            rintro v240 T240 h240 L240 X240 e240 ⟨rfl, Nq240, Kq240, Vq240⟩
            have N240 := N238.app Nq240
            have Ea241 := own_xk Ea239 Kq240 (allS le235 all0)
            refine own_istore X240 hx hby at_91 (pc' := 93) rfl (Ls' := #[.val (.int p1), .val (.int p2), .val (.int p3), .val (.long pf), .second, .val (.int p4), .val (.int q), .val (.ref b234), .val (.int (1 : Int32)), .val (.int (2 : Int32)), .val (.int (3 : Int32)), .unset, .unset, .unset]) rfl ?_
            refine own_iload X240 hx hby at_93 (pc' := 95) rfl rfl ?_
            refine own_iconst X240 hx hby at_95 (pc' := 96) rfl (z := 3) rfl ?_
            refine own_icmpN X240 hx hby at_96 (pc' := 99) rfl (flt (by decide)).2.2.1 ?_
            refine own_aload X240 hx hby at_99 (pc' := 101) rfl rfl rfl ?_
            refine own_iconst X240 hx hby at_101 (pc' := 102) rfl (z := 3) rfl ?_
            refine own_lloadN X240 hx hby at_102 (pc' := 103) rfl rfl ?_
            refine own_l2i X240 hx hby at_103 (pc' := 104) rfl ?_
            refine own_callM X240 hx hby hml hZ hown (ow_115 hw) (ow_116 hw) (ow_107 hw) (ow_117 hw) (by decide) (cc := 0) (ss := 0) (rm_plain l Z a0 hw (pf.toInt32) h240 n0 (Nat.le_trans Z0 Ea241.1)) 2 rfl rfl (by decide) (by decide) rfl (argsL := [(.int (pf.toInt32))]) (rest := [(.int (3 : Int32)), (.ref b234)]) opd_14 rfl rfl (Nat.le_refl _) at_104 (pc' := 107) rfl rfl e240 (by decide) (by decide) ?_
            rintro v242 T242 h242 L242 X242 e242 ⟨_, rfl, rfl, Nq242, rfl⟩
            have N242 := N240.app Nq242
            refine own_stC X242 hx hby hZ e242 Vq240 ⟨by decide, by decide⟩ 3 rfl (Nat.le_of_ble_eq_true rfl) at_107 (pc' := 108) rfl ?_
            intro T243 h243 X243 e243 W243 V243_b234
            replace V243_b234 : Arv Z h243 b234 kA234 .char (6 : Int32) [(.int (own_pl ((p1.toUInt32 >>> ((3 : Int32) &&& 31).toUInt32).toInt32))), (.int (own_pl ((p2.toUInt32 >>> ((3 : Int32) &&& 31).toUInt32).toInt32))), (.int (own_pl ((p3.toUInt32 >>> ((3 : Int32) &&& 31).toUInt32).toInt32))), (.int (nar .char (own_pl (pf.toInt32)))), (.int (0 : Int32)), (.int (0 : Int32))] (.int (0 : Int32)) := V243_b234
            have Ea244 := own_xw Ea241 W243 le235
            have N243 := own_fr1 (sl := ((3 : Int32)).toNatClampNeg) N242 n0_b234
            rw [own_pl_n] at V243_b234
            refine own_iload X243 hx hby at_108 (pc' := 110) rfl rfl ?_
            refine own_iconst X243 hx hby at_110 (pc' := 111) rfl (z := 4) rfl ?_
            refine own_icmpN X243 hx hby at_111 (pc' := 114) rfl (flt (by decide)).2.2.1 ?_
            refine own_aload X243 hx hby at_114 (pc' := 116) rfl rfl rfl ?_
            refine own_iconst X243 hx hby at_116 (pc' := 117) rfl (z := 4) rfl ?_
            refine own_lloadN X243 hx hby at_117 (pc' := 118) rfl rfl ?_
            refine own_bipush X243 hx hby at_118 (pc' := 120) rfl (z := 8) rfl ?_
            refine own_lushr X243 hx hby at_120 (pc' := 121) rfl ?_
            refine own_l2i X243 hx hby at_121 (pc' := 122) rfl ?_
            refine own_callM X243 hx hby hml hZ hown (ow_115 hw) (ow_116 hw) (ow_107 hw) (ow_117 hw) (by decide) (cc := 0) (ss := 0) (rm_plain l Z a0 hw (((pf.toUInt64 >>> ((8 : Int32) &&& 0x3f).toInt64.toUInt64).toInt64).toInt32) h243 n0 (Nat.le_trans Z0 Ea244.1)) 2 rfl rfl (by decide) (by decide) rfl (argsL := [(.int (((pf.toUInt64 >>> ((8 : Int32) &&& 0x3f).toInt64.toUInt64).toInt64).toInt32))]) (rest := [(.int (4 : Int32)), (.ref b234)]) opd_14 rfl rfl (Nat.le_refl _) at_122 (pc' := 125) rfl rfl e243 (by decide) (by decide) ?_
            rintro v245 T245 h245 L245 X245 e245 ⟨_, rfl, rfl, Nq245, rfl⟩
            have N245 := N243.app Nq245
            refine own_stC X245 hx hby hZ e245 V243_b234 ⟨by decide, by decide⟩ 4 rfl (Nat.le_of_ble_eq_true rfl) at_125 (pc' := 126) rfl ?_
            intro T246 h246 X246 e246 W246 V246_b234
            replace V246_b234 : Arv Z h246 b234 kA234 .char (6 : Int32) [(.int (own_pl ((p1.toUInt32 >>> ((3 : Int32) &&& 31).toUInt32).toInt32))), (.int (own_pl ((p2.toUInt32 >>> ((3 : Int32) &&& 31).toUInt32).toInt32))), (.int (own_pl ((p3.toUInt32 >>> ((3 : Int32) &&& 31).toUInt32).toInt32))), (.int (own_pl (pf.toInt32))), (.int (nar .char (own_pl (((pf.toUInt64 >>> ((8 : Int32) &&& 0x3f).toInt64.toUInt64).toInt64).toInt32)))), (.int (0 : Int32))] (.int (0 : Int32)) := V246_b234
            have Ea247 := own_xw Ea244 W246 le235
            have N246 := own_fr1 (sl := ((4 : Int32)).toNatClampNeg) N245 n0_b234
            rw [own_pl_n] at V246_b234
            refine own_iload X246 hx hby at_126 (pc' := 128) rfl rfl ?_
            refine own_iconst X246 hx hby at_128 (pc' := 129) rfl (z := 5) rfl ?_
            refine own_icmpN X246 hx hby at_129 (pc' := 132) rfl (flt (by decide)).2.2.1 ?_
            refine own_aload X246 hx hby at_132 (pc' := 134) rfl rfl rfl ?_
            refine own_iconst X246 hx hby at_134 (pc' := 135) rfl (z := 5) rfl ?_
            refine own_lloadN X246 hx hby at_135 (pc' := 136) rfl rfl ?_
            refine own_bipush X246 hx hby at_136 (pc' := 138) rfl (z := 16) rfl ?_
            refine own_lushr X246 hx hby at_138 (pc' := 139) rfl ?_
            refine own_l2i X246 hx hby at_139 (pc' := 140) rfl ?_
            refine own_callM X246 hx hby hml hZ hown (ow_115 hw) (ow_116 hw) (ow_107 hw) (ow_117 hw) (by decide) (cc := 0) (ss := 0) (rm_plain l Z a0 hw (((pf.toUInt64 >>> ((16 : Int32) &&& 0x3f).toInt64.toUInt64).toInt64).toInt32) h246 n0 (Nat.le_trans Z0 Ea247.1)) 2 rfl rfl (by decide) (by decide) rfl (argsL := [(.int (((pf.toUInt64 >>> ((16 : Int32) &&& 0x3f).toInt64.toUInt64).toInt64).toInt32))]) (rest := [(.int (5 : Int32)), (.ref b234)]) opd_14 rfl rfl (Nat.le_refl _) at_140 (pc' := 143) rfl rfl e246 (by decide) (by decide) ?_
            rintro v248 T248 h248 L248 X248 e248 ⟨_, rfl, rfl, Nq248, rfl⟩
            have N248 := N246.app Nq248
            refine own_stC X248 hx hby hZ e248 V246_b234 ⟨by decide, by decide⟩ 5 rfl (Nat.le_of_ble_eq_true rfl) at_143 (pc' := 144) rfl ?_
            intro T249 h249 X249 e249 W249 V249_b234
            replace V249_b234 : Arv Z h249 b234 kA234 .char (6 : Int32) [(.int (own_pl ((p1.toUInt32 >>> ((3 : Int32) &&& 31).toUInt32).toInt32))), (.int (own_pl ((p2.toUInt32 >>> ((3 : Int32) &&& 31).toUInt32).toInt32))), (.int (own_pl ((p3.toUInt32 >>> ((3 : Int32) &&& 31).toUInt32).toInt32))), (.int (own_pl (pf.toInt32))), (.int (own_pl (((pf.toUInt64 >>> ((8 : Int32) &&& 0x3f).toInt64.toUInt64).toInt64).toInt32))), (.int (nar .char (own_pl (((pf.toUInt64 >>> ((16 : Int32) &&& 0x3f).toInt64.toUInt64).toInt64).toInt32))))] (.int (0 : Int32)) := V249_b234
            have Ea250 := own_xw Ea247 W249 le235
            have N249 := own_fr1 (sl := ((5 : Int32)).toNatClampNeg) N248 n0_b234
            rw [own_pl_n] at V249_b234
            refine own_newO X249 hx hby hZ hown (ow_118 hw) (ow_2 hw) (ow_1 hw) e249 at_144 (pc' := 147) rfl (by decide) (by decide) ?_
            intro T251 h251 b251 g251 X251 e251 E251 AX251 D251
            have le252 : h0.size ≤ b251 := Nat.le_trans Ea250.1 (Nat.le_of_eq g251.symm)
            have le253 : h249.size ≤ b251 := Nat.le_of_eq g251.symm
            have n0_b251 : n0 ≤ b251 := Nat.le_trans (Nat.le_trans Z0 Ea250.1) (Nat.le_of_eq g251.symm)
            have Ea254 := own_xt Ea250 E251
            have F_value_b251 : Fld Z h251 b251 "java/lang/String" "value" "[B" .null := D251 (Or.inr (ow_4 hw)) (ty := (.array .byte)) (by decide)
            have F_coder_b251 : Fld Z h251 b251 "java/lang/String" "coder" "B" (.int (0 : Int32)) := D251 (Or.inr (ow_5 hw)) (ty := .byte) (by decide)
            refine own_dup X251 hx hby at_147 (pc' := 148) rfl rfl ?_
            refine own_aload X251 hx hby at_148 (pc' := 150) rfl rfl rfl ?_
            have hp2 : ∀ c ∈ ([(own_pl ((p1.toUInt32 >>> ((3 : Int32) &&& 31).toUInt32).toInt32)), (own_pl ((p2.toUInt32 >>> ((3 : Int32) &&& 31).toUInt32).toInt32)), (own_pl ((p3.toUInt32 >>> ((3 : Int32) &&& 31).toUInt32).toInt32)), (own_pl (pf.toInt32)), (own_pl (((pf.toUInt64 >>> ((8 : Int32) &&& 0x3f).toInt64.toUInt64).toInt64).toInt32)), (own_pl (((pf.toUInt64 >>> ((16 : Int32) &&& 0x3f).toInt64.toUInt64).toInt64).toInt32))] : List Int32), ¬ c < 0 ∧ ¬ (255 : Int32) < c := (own_allC (own_pl_b _) (own_allC (own_pl_b _) (own_allC (own_pl_b _) (own_allC (own_pl_b _) (own_allC (own_pl_b _) (own_allC (own_pl_b _) own_all0))))))
            refine own_spec X251 hx hby hml hZ hown rfl (ow_119 hw) (ow_120 hw) (ow_121 hw) (by decide) (cc := 1) (ss := 6) (StrChars.Road.backV (W := 1) hZ (own_hws hw) (kI := 4) (ow_2 hw) (cs := [(own_pl ((p1.toUInt32 >>> ((3 : Int32) &&& 31).toUInt32).toInt32)), (own_pl ((p2.toUInt32 >>> ((3 : Int32) &&& 31).toUInt32).toInt32)), (own_pl ((p3.toUInt32 >>> ((3 : Int32) &&& 31).toUInt32).toInt32)), (own_pl (pf.toInt32)), (own_pl (((pf.toUInt64 >>> ((8 : Int32) &&& 0x3f).toInt64.toUInt64).toInt64).toInt32)), (own_pl (((pf.toUInt64 >>> ((16 : Int32) &&& 0x3f).toInt64.toUInt64).toInt64).toInt32))]) (bs := ([(own_pl ((p1.toUInt32 >>> ((3 : Int32) &&& 31).toUInt32).toInt32)), (own_pl ((p2.toUInt32 >>> ((3 : Int32) &&& 31).toUInt32).toInt32)), (own_pl ((p3.toUInt32 >>> ((3 : Int32) &&& 31).toUInt32).toInt32)), (own_pl (pf.toInt32)), (own_pl (((pf.toUInt64 >>> ((8 : Int32) &&& 0x3f).toInt64.toUInt64).toInt64).toInt32)), (own_pl (((pf.toUInt64 >>> ((16 : Int32) &&& 0x3f).toInt64.toUInt64).toInt64).toInt32))] : List Int32).map (fun c => c.toInt8.toInt32)) (n := 6) n0_b251 (Nat.le_trans Z0 Ea254.1) AX251 F_value_b251 F_coder_b251 (V249_b234.ext E251) (S_cs.ext Ea254) P5 rfl rfl (by decide) (by decide) hp2 rfl (by decide) (by decide)) rfl (argsL := [(.ref b234)]) (rest := [(.ref b251)]) opd_21 rfl rfl (Nat.le_refl _) at_150 (pc' := 153) rfl rfl e251 (by decide) (by decide) ?_
            rintro v255 T255 h255 L255 X255 e255 ⟨rfl, Nq255, Kq255, Aq255, Cq255, t255, kb255, _, _, _, Vq255, Bq255⟩
            have N255 := N249.app Nq255
            have Ea256 := own_xk Ea254 Kq255 (allS le252 all0)
            have Ea257 := own_xk E251 Kq255 (allS le253 all0)
            replace SN := SN.ext Ea256
            replace CH := CH.ext Ea256
            replace S_cs := S_cs.ext Ea256
            replace S_f := S_f.ext Ea256
            replace V249_b234 := V249_b234.ext Ea257
            have S_b251 : own_Str Z h255 b251 [(own_pl ((p1.toUInt32 >>> ((3 : Int32) &&& 31).toUInt32).toInt32)), (own_pl ((p2.toUInt32 >>> ((3 : Int32) &&& 31).toUInt32).toInt32)), (own_pl ((p3.toUInt32 >>> ((3 : Int32) &&& 31).toUInt32).toInt32)), (own_pl (pf.toInt32)), (own_pl (((pf.toUInt64 >>> ((8 : Int32) &&& 0x3f).toInt64.toUInt64).toInt64).toInt32)), (own_pl (((pf.toUInt64 >>> ((16 : Int32) &&& 0x3f).toInt64.toUInt64).toInt64).toInt32))] := ⟨Aq255, Cq255, hp2, t255, kb255, Vq255, Bq255⟩
            have A_b251 := S_b251.exa
            refine own_ldcO X255 hx hby hZ hown SN CH (own_ew hw) (own_ws hw) (ow_8 hw) e255 at_153 (pc' := 155) rfl (n := 40) (by decide) (by decide) (by decide) (by decide) ?_
            intro T258 vm258 h258 q258 X258 e258 hZ hown SN258 CH258 E258
            have Ea259 := own_xt Ea256 E258
            replace S_cs := S_cs.ext E258
            replace S_f := S_f.ext E258
            replace V249_b234 := V249_b234.ext E258
            replace S_b251 := S_b251.ext E258
            replace A_b251 := A_b251.ext E258
            refine own_callM X258 hx hby hml hZ hown (ow_9 hw) (ow_10 hw) (ow_11 hw) (ow_12 hw) (by decide) (cc := 4) (ss := 20) (rm_une l Z a0 hw b251 q258 [(own_pl ((p1.toUInt32 >>> ((3 : Int32) &&& 31).toUInt32).toInt32)), (own_pl ((p2.toUInt32 >>> ((3 : Int32) &&& 31).toUInt32).toInt32)), (own_pl ((p3.toUInt32 >>> ((3 : Int32) &&& 31).toUInt32).toInt32)), (own_pl (pf.toInt32)), (own_pl (((pf.toUInt64 >>> ((8 : Int32) &&& 0x3f).toInt64.toUInt64).toInt64).toInt32)), (own_pl (((pf.toUInt64 >>> ((16 : Int32) &&& 0x3f).toInt64.toUInt64).toInt64).toInt32))] [(own_pl ((p1.toUInt32 >>> ((3 : Int32) &&& 31).toUInt32).toInt32)), (own_pl ((p2.toUInt32 >>> ((3 : Int32) &&& 31).toUInt32).toInt32)), (own_pl ((p3.toUInt32 >>> ((3 : Int32) &&& 31).toUInt32).toInt32)), (own_pl (pf.toInt32)), (own_pl (((pf.toUInt64 >>> ((8 : Int32) &&& 0x3f).toInt64.toUInt64).toInt64).toInt32)), (own_pl (((pf.toUInt64 >>> ((16 : Int32) &&& 0x3f).toInt64.toUInt64).toInt64).toInt32))] [((own_pl ((p1.toUInt32 >>> ((3 : Int32) &&& 31).toUInt32).toInt32)), none), ((own_pl ((p2.toUInt32 >>> ((3 : Int32) &&& 31).toUInt32).toInt32)), none), ((own_pl ((p3.toUInt32 >>> ((3 : Int32) &&& 31).toUInt32).toInt32)), none), ((own_pl (pf.toInt32)), none), ((own_pl (((pf.toUInt64 >>> ((8 : Int32) &&& 0x3f).toInt64.toUInt64).toInt64).toInt32)), none), ((own_pl (((pf.toUInt64 >>> ((16 : Int32) &&& 0x3f).toInt64.toUInt64).toInt64).toInt32)), none)] G1 fm h258 n0 (Nat.le_trans Z0 Ea259.1) S_cs P5 S_f rf S_b251 (Nat.le_of_ble_eq_true rfl) (own_allC (own_okp _) (own_allC (own_okp _) (own_allC (own_okp _) (own_allC (own_okp _) (own_allC (own_okp _) (own_allC (own_okp _) own_all0)))))) rfl rfl) 0 rfl rfl (by decide) (by decide) rfl (argsL := [(.ref b251), (.ref q258)]) (rest := []) opd_17 rfl rfl (Nat.le_refl _) at_155 (pc' := 158) rfl rfl e258 (by decide) (by decide) ?_
            rintro v260 T260 h260 L260 X260 e260 ⟨r, rfl, Eq260, Nq260, S_r⟩
            have N260 := N255.app Nq260
            have Ea261 := own_xt Ea259 Eq260
            replace S_cs := S_cs.ext Eq260
            replace S_f := S_f.ext Eq260
            replace V249_b234 := V249_b234.ext Eq260
            replace S_b251 := S_b251.ext Eq260
            replace A_b251 := A_b251.ext Eq260
            replace SN258 := SN258.ext Eq260
            replace CH258 := CH258.ext Eq260
            have A_r := S_r.exa
            refine own_astore X260 hx hby at_158 (pc' := 160) rfl rfl (Ls' := #[.val (.int p1), .val (.int p2), .val (.int p3), .val (.long pf), .second, .val (.int p4), .val (.int q), .val (.ref b234), .val (.int (1 : Int32)), .val (.int (2 : Int32)), .val (.int (3 : Int32)), .val (.ref r), .unset, .unset]) rfl ?_
            refine own_bipush X260 hx hby at_160 (pc' := 162) rfl (z := 9) rfl ?_
            refine own_iload X260 hx hby at_162 (pc' := 164) rfl rfl ?_
            refine own_isub X260 hx hby at_164 (pc' := 165) rfl ?_
            refine own_istore X260 hx hby at_165 (pc' := 167) rfl (Ls' := #[.val (.int p1), .val (.int p2), .val (.int p3), .val (.long pf), .second, .val (.int p4), .val (.int q), .val (.ref b234), .val (.int (1 : Int32)), .val (.int (2 : Int32)), .val (.int (3 : Int32)), .val (.ref r), .val (.int ((9 : Int32) - (3 : Int32))), .unset]) rfl ?_
            refine own_aload X260 hx hby at_167 (pc' := 169) rfl rfl rfl ?_
            refine own_virt X260 hx hby hml hZ hown (ow_188 hw) (ow_17 hw) (notFace_of_selects (args := #[]) (mvT hZ (ow_19 hw))) (ow_19 hw) (ow_18 hw) (by decide) (cc := 0) (ss := 0) (own_lenB (W := 0) hZ hw S_r (Nat.le_of_ble_eq_true rfl) S_cs P5 (by decide) (by decide)) rfl A_r (argsL := []) (rest := []) opd_3 rfl rfl (Nat.le_refl _) at_169 (pc' := 172) rfl rfl e260 (by decide) (by decide) ?_
            rintro v262 T262 h262 L262 X262 e262 ⟨hv262, hl262, hh262⟩
            subst hl262
            obtain rfl := hh262.symm
            obtain rfl := hv262
            have N262 := N260.app (Fr.nil n0)
            refine own_iload X262 hx hby at_172 (pc' := 174) rfl rfl ?_
            refine own_icmpY X262 hx hby at_174 (by decide) (pc' := 179) (by decide) (teq (show Int32.ofNat 6 = (9 : Int32) - (3 : Int32) from by decide)).1 ?_
            refine own_aload X262 hx hby at_179 (pc' := 181) rfl rfl rfl ?_
            refine own_iconst X262 hx hby at_181 (pc' := 182) rfl (z := 0) rfl ?_
            refine own_virt X262 hx hby hml hZ hown (ow_189 hw) (ow_136 hw) (notFace_of_selects (args := #[]) (mvT hZ (ow_138 hw))) (ow_138 hw) (ow_137 hw) (by decide) (cc := 0) (ss := 0) (own_chB (W := 0) hZ hw (i := 0) S_r (Nat.le_of_ble_eq_true rfl) S_cs P5 S_f rf (Nat.le_of_ble_eq_true rfl) rfl (by decide) (by decide)) rfl A_r (argsL := [(.int (0 : Int32))]) (rest := []) opd_14 rfl rfl (Nat.le_refl _) at_182 (pc' := 185) rfl rfl e262 (by decide) (by decide) ?_
            rintro v263 T263 h263 L263 X263 e263 ⟨hv263, hl263, hh263⟩
            rw [(show List.getD ([(own_pl ((p1.toUInt32 >>> ((3 : Int32) &&& 31).toUInt32).toInt32)), (own_pl ((p2.toUInt32 >>> ((3 : Int32) &&& 31).toUInt32).toInt32)), (own_pl ((p3.toUInt32 >>> ((3 : Int32) &&& 31).toUInt32).toInt32)), (own_pl (pf.toInt32)), (own_pl (((pf.toUInt64 >>> ((8 : Int32) &&& 0x3f).toInt64.toUInt64).toInt64).toInt32)), (own_pl (((pf.toUInt64 >>> ((16 : Int32) &&& 0x3f).toInt64.toUInt64).toInt64).toInt32))] : List Int32) 0 0 = (own_pl ((p1.toUInt32 >>> ((3 : Int32) &&& 31).toUInt32).toInt32)) from rfl)] at hv263
            subst hl263
            obtain rfl := hh263.symm
            obtain rfl := hv263
            have N263 := N262.app (Fr.nil n0)
            refine own_iloadN X263 hx hby at_185 (pc' := 186) rfl rfl ?_
            refine own_callM X263 hx hby hml hZ hown (ow_190 hw) (ow_191 hw) (ow_107 hw) (ow_192 hw) (by decide) (cc := 0) (ss := 0) (rm_out0 l Z a0 hw p1 h260 n0 (Nat.le_trans Z0 Ea261.1) h0_) 1 rfl rfl (by decide) (by decide) rfl (argsL := [(.int p1)]) (rest := [(.int (own_pl ((p1.toUInt32 >>> ((3 : Int32) &&& 31).toUInt32).toInt32)))]) opd_14 rfl rfl (Nat.le_refl _) at_186 (pc' := 189) rfl rfl e263 (by decide) (by decide) ?_
            rintro v264 T264 h264 L264 X264 e264 ⟨rfl, Nq264, rfl⟩
            have N264 := N263.app Nq264
            refine own_icmpN X264 hx hby at_189 (pc' := 192) rfl (teq rfl).2 ?_
            refine own_aload X264 hx hby at_192 (pc' := 194) rfl rfl rfl ?_
            refine own_iconst X264 hx hby at_194 (pc' := 195) rfl (z := 1) rfl ?_
            refine own_virt X264 hx hby hml hZ hown (ow_189 hw) (ow_136 hw) (notFace_of_selects (args := #[]) (mvT hZ (ow_138 hw))) (ow_138 hw) (ow_137 hw) (by decide) (cc := 0) (ss := 0) (own_chB (W := 0) hZ hw (i := 1) S_r (Nat.le_of_ble_eq_true rfl) S_cs P5 S_f rf (Nat.le_of_ble_eq_true rfl) rfl (by decide) (by decide)) rfl A_r (argsL := [(.int (1 : Int32))]) (rest := []) opd_14 rfl rfl (Nat.le_refl _) at_195 (pc' := 198) rfl rfl e264 (by decide) (by decide) ?_
            rintro v265 T265 h265 L265 X265 e265 ⟨hv265, hl265, hh265⟩
            rw [(show List.getD ([(own_pl ((p1.toUInt32 >>> ((3 : Int32) &&& 31).toUInt32).toInt32)), (own_pl ((p2.toUInt32 >>> ((3 : Int32) &&& 31).toUInt32).toInt32)), (own_pl ((p3.toUInt32 >>> ((3 : Int32) &&& 31).toUInt32).toInt32)), (own_pl (pf.toInt32)), (own_pl (((pf.toUInt64 >>> ((8 : Int32) &&& 0x3f).toInt64.toUInt64).toInt64).toInt32)), (own_pl (((pf.toUInt64 >>> ((16 : Int32) &&& 0x3f).toInt64.toUInt64).toInt64).toInt32))] : List Int32) 1 0 = (own_pl ((p2.toUInt32 >>> ((3 : Int32) &&& 31).toUInt32).toInt32)) from rfl)] at hv265
            subst hl265
            obtain rfl := hh265.symm
            obtain rfl := hv265
            have N265 := N264.app (Fr.nil n0)
            refine own_iloadN X265 hx hby at_198 (pc' := 199) rfl rfl ?_
            refine own_callM X265 hx hby hml hZ hown (ow_190 hw) (ow_191 hw) (ow_107 hw) (ow_192 hw) (by decide) (cc := 0) (ss := 0) (rm_out0 l Z a0 hw p2 h260 n0 (Nat.le_trans Z0 Ea261.1) h1_) 1 rfl rfl (by decide) (by decide) rfl (argsL := [(.int p2)]) (rest := [(.int (own_pl ((p2.toUInt32 >>> ((3 : Int32) &&& 31).toUInt32).toInt32)))]) opd_14 rfl rfl (Nat.le_refl _) at_199 (pc' := 202) rfl rfl e265 (by decide) (by decide) ?_
            rintro v266 T266 h266 L266 X266 e266 ⟨rfl, Nq266, rfl⟩
            have N266 := N265.app Nq266
            refine own_icmpN X266 hx hby at_202 (pc' := 205) rfl (teq rfl).2 ?_
            refine own_aload X266 hx hby at_205 (pc' := 207) rfl rfl rfl ?_
            refine own_iconst X266 hx hby at_207 (pc' := 208) rfl (z := 2) rfl ?_
            refine own_virt X266 hx hby hml hZ hown (ow_189 hw) (ow_136 hw) (notFace_of_selects (args := #[]) (mvT hZ (ow_138 hw))) (ow_138 hw) (ow_137 hw) (by decide) (cc := 0) (ss := 0) (own_chB (W := 0) hZ hw (i := 2) S_r (Nat.le_of_ble_eq_true rfl) S_cs P5 S_f rf (Nat.le_of_ble_eq_true rfl) rfl (by decide) (by decide)) rfl A_r (argsL := [(.int (2 : Int32))]) (rest := []) opd_14 rfl rfl (Nat.le_refl _) at_208 (pc' := 211) rfl rfl e266 (by decide) (by decide) ?_
            rintro v267 T267 h267 L267 X267 e267 ⟨hv267, hl267, hh267⟩
            rw [(show List.getD ([(own_pl ((p1.toUInt32 >>> ((3 : Int32) &&& 31).toUInt32).toInt32)), (own_pl ((p2.toUInt32 >>> ((3 : Int32) &&& 31).toUInt32).toInt32)), (own_pl ((p3.toUInt32 >>> ((3 : Int32) &&& 31).toUInt32).toInt32)), (own_pl (pf.toInt32)), (own_pl (((pf.toUInt64 >>> ((8 : Int32) &&& 0x3f).toInt64.toUInt64).toInt64).toInt32)), (own_pl (((pf.toUInt64 >>> ((16 : Int32) &&& 0x3f).toInt64.toUInt64).toInt64).toInt32))] : List Int32) 2 0 = (own_pl ((p3.toUInt32 >>> ((3 : Int32) &&& 31).toUInt32).toInt32)) from rfl)] at hv267
            subst hl267
            obtain rfl := hh267.symm
            obtain rfl := hv267
            have N267 := N266.app (Fr.nil n0)
            refine own_iloadN X267 hx hby at_211 (pc' := 212) rfl rfl ?_
            refine own_callM X267 hx hby hml hZ hown (ow_190 hw) (ow_191 hw) (ow_107 hw) (ow_192 hw) (by decide) (cc := 0) (ss := 0) (rm_out0 l Z a0 hw p3 h260 n0 (Nat.le_trans Z0 Ea261.1) h2_) 1 rfl rfl (by decide) (by decide) rfl (argsL := [(.int p3)]) (rest := [(.int (own_pl ((p3.toUInt32 >>> ((3 : Int32) &&& 31).toUInt32).toInt32)))]) opd_14 rfl rfl (Nat.le_refl _) at_212 (pc' := 215) rfl rfl e267 (by decide) (by decide) ?_
            rintro v268 T268 h268 L268 X268 e268 ⟨rfl, Nq268, rfl⟩
            have N268 := N267.app Nq268
            refine own_icmpN X268 hx hby at_215 (pc' := 218) rfl (teq rfl).2 ?_
            refine own_iconst X268 hx hby at_218 (pc' := 219) rfl (z := 1) rfl ?_
            refine own_goto X268 hx hby at_219 (by decide) (pc' := 223) (by decide) ?_
            refine own_istore X268 hx hby at_223 (pc' := 225) rfl (Ls' := #[.val (.int p1), .val (.int p2), .val (.int p3), .val (.long pf), .second, .val (.int p4), .val (.int q), .val (.ref b234), .val (.int (1 : Int32)), .val (.int (2 : Int32)), .val (.int (3 : Int32)), .val (.ref r), .val (.int ((9 : Int32) - (3 : Int32))), .val (.int (1 : Int32))]) rfl ?_
            refine own_iload X268 hx hby at_225 (pc' := 227) rfl rfl ?_
            refine own_iconst X268 hx hby at_227 (pc' := 228) rfl (z := 3) rfl ?_
            refine own_icmpN X268 hx hby at_228 (pc' := 231) rfl (tlt (by decide)).2.2.2 ?_
            refine own_iload X268 hx hby at_231 (pc' := 233) rfl rfl ?_
            refine own_ifN X268 hx hby at_233 (pc' := 236) rfl (feq (by decide)).1 ?_
            refine own_aload X268 hx hby at_236 (pc' := 238) rfl rfl rfl ?_
            refine own_iconst X268 hx hby at_238 (pc' := 239) rfl (z := 3) rfl ?_
            refine own_virt X268 hx hby hml hZ hown (ow_189 hw) (ow_136 hw) (notFace_of_selects (args := #[]) (mvT hZ (ow_138 hw))) (ow_138 hw) (ow_137 hw) (by decide) (cc := 0) (ss := 0) (own_chB (W := 0) hZ hw (i := 3) S_r (Nat.le_of_ble_eq_true rfl) S_cs P5 S_f rf (Nat.le_of_ble_eq_true rfl) rfl (by decide) (by decide)) rfl A_r (argsL := [(.int (3 : Int32))]) (rest := []) opd_14 rfl rfl (Nat.le_refl _) at_239 (pc' := 242) rfl rfl e268 (by decide) (by decide) ?_
            rintro v269 T269 h269 L269 X269 e269 ⟨hv269, hl269, hh269⟩
            rw [(show List.getD ([(own_pl ((p1.toUInt32 >>> ((3 : Int32) &&& 31).toUInt32).toInt32)), (own_pl ((p2.toUInt32 >>> ((3 : Int32) &&& 31).toUInt32).toInt32)), (own_pl ((p3.toUInt32 >>> ((3 : Int32) &&& 31).toUInt32).toInt32)), (own_pl (pf.toInt32)), (own_pl (((pf.toUInt64 >>> ((8 : Int32) &&& 0x3f).toInt64.toUInt64).toInt64).toInt32)), (own_pl (((pf.toUInt64 >>> ((16 : Int32) &&& 0x3f).toInt64.toUInt64).toInt64).toInt32))] : List Int32) 3 0 = (own_pl (pf.toInt32)) from rfl)] at hv269
            subst hl269
            obtain rfl := hh269.symm
            obtain rfl := hv269
            have N269 := N268.app (Fr.nil n0)
            refine own_aload X269 hx hby at_242 (pc' := 244) rfl rfl rfl ?_
            refine own_iload X269 hx hby at_244 (pc' := 246) rfl rfl ?_
            refine own_caloadV X269 hx hby hZ e269 V249_b234 ⟨by decide, by decide⟩ (v := (.int (own_pl (pf.toInt32)))) rfl at_246 (pc' := 247) rfl ?_
            refine own_icmpN X269 hx hby at_247 (pc' := 250) rfl (teq rfl).2 ?_
            refine own_iconst X269 hx hby at_250 (pc' := 251) rfl (z := 1) rfl ?_
            refine own_goto X269 hx hby at_251 (by decide) (pc' := 255) (by decide) ?_
            refine own_istore X269 hx hby at_255 (pc' := 257) rfl (Ls' := #[.val (.int p1), .val (.int p2), .val (.int p3), .val (.long pf), .second, .val (.int p4), .val (.int q), .val (.ref b234), .val (.int (1 : Int32)), .val (.int (2 : Int32)), .val (.int (3 : Int32)), .val (.ref r), .val (.int ((9 : Int32) - (3 : Int32))), .val (.int (1 : Int32))]) rfl ?_
            refine own_iload X269 hx hby at_257 (pc' := 259) rfl rfl ?_
            refine own_iconst X269 hx hby at_259 (pc' := 260) rfl (z := 4) rfl ?_
            refine own_icmpN X269 hx hby at_260 (pc' := 263) rfl (tlt (by decide)).2.2.2 ?_
            refine own_iload X269 hx hby at_263 (pc' := 265) rfl rfl ?_
            refine own_ifN X269 hx hby at_265 (pc' := 268) rfl (feq (by decide)).1 ?_
            refine own_aload X269 hx hby at_268 (pc' := 270) rfl rfl rfl ?_
            refine own_iconst X269 hx hby at_270 (pc' := 271) rfl (z := 4) rfl ?_
            refine own_virt X269 hx hby hml hZ hown (ow_189 hw) (ow_136 hw) (notFace_of_selects (args := #[]) (mvT hZ (ow_138 hw))) (ow_138 hw) (ow_137 hw) (by decide) (cc := 0) (ss := 0) (own_chB (W := 0) hZ hw (i := 4) S_r (Nat.le_of_ble_eq_true rfl) S_cs P5 S_f rf (Nat.le_of_ble_eq_true rfl) rfl (by decide) (by decide)) rfl A_r (argsL := [(.int (4 : Int32))]) (rest := []) opd_14 rfl rfl (Nat.le_refl _) at_271 (pc' := 274) rfl rfl e269 (by decide) (by decide) ?_
            rintro v270 T270 h270 L270 X270 e270 ⟨hv270, hl270, hh270⟩
            rw [(show List.getD ([(own_pl ((p1.toUInt32 >>> ((3 : Int32) &&& 31).toUInt32).toInt32)), (own_pl ((p2.toUInt32 >>> ((3 : Int32) &&& 31).toUInt32).toInt32)), (own_pl ((p3.toUInt32 >>> ((3 : Int32) &&& 31).toUInt32).toInt32)), (own_pl (pf.toInt32)), (own_pl (((pf.toUInt64 >>> ((8 : Int32) &&& 0x3f).toInt64.toUInt64).toInt64).toInt32)), (own_pl (((pf.toUInt64 >>> ((16 : Int32) &&& 0x3f).toInt64.toUInt64).toInt64).toInt32))] : List Int32) 4 0 = (own_pl (((pf.toUInt64 >>> ((8 : Int32) &&& 0x3f).toInt64.toUInt64).toInt64).toInt32)) from rfl)] at hv270
            subst hl270
            obtain rfl := hh270.symm
            obtain rfl := hv270
            have N270 := N269.app (Fr.nil n0)
            refine own_aload X270 hx hby at_274 (pc' := 276) rfl rfl rfl ?_
            refine own_iload X270 hx hby at_276 (pc' := 278) rfl rfl ?_
            refine own_iconst X270 hx hby at_278 (pc' := 279) rfl (z := 1) rfl ?_
            refine own_iadd X270 hx hby at_279 (pc' := 280) rfl ?_
            refine own_caloadV X270 hx hby hZ e270 V249_b234 ⟨by decide, by decide⟩ (v := (.int (own_pl (((pf.toUInt64 >>> ((8 : Int32) &&& 0x3f).toInt64.toUInt64).toInt64).toInt32)))) rfl at_280 (pc' := 281) rfl ?_
            refine own_icmpN X270 hx hby at_281 (pc' := 284) rfl (teq rfl).2 ?_
            refine own_iconst X270 hx hby at_284 (pc' := 285) rfl (z := 1) rfl ?_
            refine own_goto X270 hx hby at_285 (by decide) (pc' := 289) (by decide) ?_
            refine own_istore X270 hx hby at_289 (pc' := 291) rfl (Ls' := #[.val (.int p1), .val (.int p2), .val (.int p3), .val (.long pf), .second, .val (.int p4), .val (.int q), .val (.ref b234), .val (.int (1 : Int32)), .val (.int (2 : Int32)), .val (.int (3 : Int32)), .val (.ref r), .val (.int ((9 : Int32) - (3 : Int32))), .val (.int (1 : Int32))]) rfl ?_
            refine own_iload X270 hx hby at_291 (pc' := 293) rfl rfl ?_
            refine own_iconst X270 hx hby at_293 (pc' := 294) rfl (z := 5) rfl ?_
            refine own_icmpN X270 hx hby at_294 (pc' := 297) rfl (tlt (by decide)).2.2.2 ?_
            refine own_iload X270 hx hby at_297 (pc' := 299) rfl rfl ?_
            refine own_ifN X270 hx hby at_299 (pc' := 302) rfl (feq (by decide)).1 ?_
            refine own_aload X270 hx hby at_302 (pc' := 304) rfl rfl rfl ?_
            refine own_iconst X270 hx hby at_304 (pc' := 305) rfl (z := 5) rfl ?_
            refine own_virt X270 hx hby hml hZ hown (ow_189 hw) (ow_136 hw) (notFace_of_selects (args := #[]) (mvT hZ (ow_138 hw))) (ow_138 hw) (ow_137 hw) (by decide) (cc := 0) (ss := 0) (own_chB (W := 0) hZ hw (i := 5) S_r (Nat.le_of_ble_eq_true rfl) S_cs P5 S_f rf (Nat.le_of_ble_eq_true rfl) rfl (by decide) (by decide)) rfl A_r (argsL := [(.int (5 : Int32))]) (rest := []) opd_14 rfl rfl (Nat.le_refl _) at_305 (pc' := 308) rfl rfl e270 (by decide) (by decide) ?_
            rintro v271 T271 h271 L271 X271 e271 ⟨hv271, hl271, hh271⟩
            rw [(show List.getD ([(own_pl ((p1.toUInt32 >>> ((3 : Int32) &&& 31).toUInt32).toInt32)), (own_pl ((p2.toUInt32 >>> ((3 : Int32) &&& 31).toUInt32).toInt32)), (own_pl ((p3.toUInt32 >>> ((3 : Int32) &&& 31).toUInt32).toInt32)), (own_pl (pf.toInt32)), (own_pl (((pf.toUInt64 >>> ((8 : Int32) &&& 0x3f).toInt64.toUInt64).toInt64).toInt32)), (own_pl (((pf.toUInt64 >>> ((16 : Int32) &&& 0x3f).toInt64.toUInt64).toInt64).toInt32))] : List Int32) 5 0 = (own_pl (((pf.toUInt64 >>> ((16 : Int32) &&& 0x3f).toInt64.toUInt64).toInt64).toInt32)) from rfl)] at hv271
            subst hl271
            obtain rfl := hh271.symm
            obtain rfl := hv271
            have N271 := N270.app (Fr.nil n0)
            refine own_aload X271 hx hby at_308 (pc' := 310) rfl rfl rfl ?_
            refine own_iload X271 hx hby at_310 (pc' := 312) rfl rfl ?_
            refine own_iconst X271 hx hby at_312 (pc' := 313) rfl (z := 2) rfl ?_
            refine own_iadd X271 hx hby at_313 (pc' := 314) rfl ?_
            refine own_caloadV X271 hx hby hZ e271 V249_b234 ⟨by decide, by decide⟩ (v := (.int (own_pl (((pf.toUInt64 >>> ((16 : Int32) &&& 0x3f).toInt64.toUInt64).toInt64).toInt32)))) rfl at_314 (pc' := 315) rfl ?_
            refine own_icmpN X271 hx hby at_315 (pc' := 318) rfl (teq rfl).2 ?_
            refine own_iconst X271 hx hby at_318 (pc' := 319) rfl (z := 1) rfl ?_
            refine own_goto X271 hx hby at_319 (by decide) (pc' := 323) (by decide) ?_
            refine own_istore X271 hx hby at_323 (pc' := 325) rfl (Ls' := #[.val (.int p1), .val (.int p2), .val (.int p3), .val (.long pf), .second, .val (.int p4), .val (.int q), .val (.ref b234), .val (.int (1 : Int32)), .val (.int (2 : Int32)), .val (.int (3 : Int32)), .val (.ref r), .val (.int ((9 : Int32) - (3 : Int32))), .val (.int (1 : Int32))]) rfl ?_
            refine own_iload X271 hx hby at_325 (pc' := 327) rfl rfl ?_
            exact own_retNW X271 hx hby hZ (own_ew hw) e271 SN258 CH258 hlk hrt (by simp) at_327 (z' := (1 : Int32)) rfl ⟨rfl, N271⟩ (by decide) (by decide)
set_option maxRecDepth 65536 in
set_option maxHeartbeats 40000000 in
theorem comes_1 {Post : Tables → Env → Array Value → State → Outcome → State → Prop} (hpost : ∀ tb e args s v u, (limb_1_1.after args s (.returned v) u = true ∧ limb_1_2.after args s (.returned v) u = true ∧ True) → ReturnedEndW s (.returned v) u (Jvm.fieldLocs frame_1_writes args s ++ Jvm.arrayLocs frame_1_arrays args s ++ Jvm.staticLocs frame_1_statics s) 32 2240 → Post tb e args s (.returned v) u) :
    ArmFor flags0 classFile x code maxLocals ret World_1 tables_1 room_1 Calls_1 rest_1 Pre_1 Post := by
  intro l hfl _ _ p e ha hc hk s m args below hf hA hF happ hP
  obtain ⟨hcalls, hrest, hpre⟩ := hP
  obtain ⟨-, -, -, hnamed, -, -, -, hat⟩ := (Spec.applies_iff hf).mp happ
  obtain ⟨hg, hn⟩ := and_e (Cond.before_iff.mp (show (Jvm.Cond.and given_1 narrow_1).before args s = true from hpre))
  obtain ⟨g1, g2⟩ := and_e hg
  obtain ⟨g3, g4⟩ := and_e g2
  obtain ⟨g5, g6⟩ := and_e g4
  obtain ⟨g7, g8⟩ := and_e g6
  obtain ⟨g9, g10⟩ := and_e g8
  obtain ⟨w0, w1, w2, w3, w4, rfl⟩ : ∃ w0 w1 w2 w3 w4 : Value, args = #[w0, w1, w2, w3, w4] := by
    have hs : args.size = 5 := by simpa [Cond.value, given_1] using g1
    obtain ⟨L⟩ := args
    match L, hs with
    | [w0, w1, w2, w3, w4], _ => exact ⟨w0, w1, w2, w3, w4, rfl⟩
  have hw := fun d (hd : d ∈ tables_1) => atoms_spec (ws := Jvm.Cond.code x code maxLocals ret :: tables_1) hat d (List.mem_cons_of_mem _ hd)
  have hfit : Fit s := fun {y c} hc i hi => by
    obtain ⟨ha, rfl⟩ := Array.getElem?_eq_some_iff.mp hc
    have q := List.all_eq_true.mp ((Array.all_eq_true_iff_forall_mem.mp hF) _ (Array.getElem_mem ha)) i (List.mem_range.mpr hi)
    simpa [Array.getElem?_eq_getElem hi] using q
  obtain ⟨hsets, hown0⟩ := atoms_of _ (rest_1_c_eq ▸ (show rest_1_c.before _ s = true from hrest))
  have hr0 := Cond.before_iff.mp hown0
  obtain ⟨i0, ei0⟩ := is_v g3
  obtain rfl : w0 = (.int i0) := Option.some.inj ei0
  obtain ⟨i1, ei1⟩ := is_v g5
  obtain rfl : w1 = (.int i1) := Option.some.inj ei1
  obtain ⟨i2, ei2⟩ := is_v g7
  obtain rfl : w2 = (.int i2) := Option.some.inj ei2
  obtain ⟨i3, ei3⟩ := isL_v g9
  obtain rfl : w3 = (.long i3) := Option.some.inj ei3
  obtain ⟨i4, ei4⟩ := is_v g10
  obtain rfl : w4 = (.int i4) := Option.some.inj ei4
  obtain ⟨G1, eG1⟩ := is_v (Cond.before_iff.mp (hsets _ (List.mem_of_getElem? (i := 1) rfl)))
  have S_cs := Sta.start eG1 (Or.inl (hsets _ (List.mem_of_getElem? (i := 0) rfl)))
  have P5 : ¬ (G1 = (0 : Int32)) := own_not0 eG1 (hsets _ (List.mem_of_getElem? (i := 2) rfl))
  obtain ⟨fm, ef, rf⟩ := isR_v (Cond.before_iff.mp (hsets _ (List.mem_of_getElem? (i := 8) rfl)))
  have S_f := Sta.start ef (Or.inl (hsets _ (List.mem_of_getElem? (i := 7) rfl)))
  have hCH : CHv s own_EL s.vm s.heap := CHv.start (own_ew hw) (fun p hp => hcalls.1 p hp) (hsets _ (List.mem_of_getElem? (i := 2) rfl)) (ow_3 hw) (ow_2 hw)
  obtain ⟨n, o, h1, h2, h3, _, L, rfl, ⟨rfl, N⟩, -, hq⟩ := rm_law l s _ hw i0 i1 i2 i3 i4 G1 fm s.heap s.heap.size (Nat.le_refl _) S_cs P5 S_f rf tables_1 p e ha hc hk s m _ below hf ((Spec.applies_iff_loose hf).mp happ).1 ⟨rfl, State.Warmed39.refl s, rfl, hCH⟩ trivial
  refine ⟨n, _, h1, h2, h3, hpost _ _ _ _ _ _ ⟨Cond.after_iff.mpr rfl, Cond.after_iff.mpr (eq_i res_at (Term.int_eval (1)) rfl), trivial⟩ ⟨hq.1, hq.2.1, hq.2.2.1, (hq.2.2.2.sift fun y hy => Or.inr (N y hy)).mono (by decide) (by decide)⟩⟩
theorem main_1_1 : Claimed_1_1 := comes_1 fun _ _ _ _ _ _ h hF => ⟨h.1, hF⟩
theorem main_1_2 : Claimed_1_2 := comes_1 fun _ _ _ _ _ _ h hF => ⟨h.2.1, hF⟩
end Jvm.Pilot.@@N@@
namespace Jvm.Pilot.@@N@@
open Jvm Jvm.ClassFile Sem Op Lib Jvm.Free Jvm.Stand Jvm.Pilot.@@N@@.Jvm.D
/-! MADE BY PROGRAM (witnessworld.py) out of the Statement's table words and the real class files: 26 classes; the members and pool entries that the words name. The judged class is class 1, her method 7. -/
namespace start1
open Jvm.ClassFile
def u (s : String) : CpInfo := .utf8 (stringToUtf16 s)
/-- a pool by its gaps: so many unusable entries, then the entry; so many at the end -/
def gap : Nat → List CpInfo → List CpInfo
  | 0, r => r
  | n + 1, r => .unusable :: gap n r
def poolList (es : List (Nat × CpInfo)) (last : Nat) : List CpInfo := es.foldr (fun e r => gap e.1 (e.2 :: r)) (gap last [])
def pool (es : List (Nat × CpInfo)) (last : Nat) : Array CpInfo := ⟨poolList es last⟩
def fileOf (pool : Array CpInfo) (this : Nat) (attrs : Array Attribute := #[]) (ms : Array MethodInfo := #[]) (fl : Nat := 33) (sup : Nat := 0) (ifs : Array Nat := #[]) (fds : Array FieldInfo := #[]) : ClassFile where
  minorVersion := 0
  majorVersion := 65
  constantPool := pool
  accessFlags := fl
  thisClass := this
  superClass := sup
  interfaces := ifs
  fields := fds
  methods := ms
  attributes := attrs
def plain (name : String) (sup : Option ClassId) : Class where
  name := name
  kind := .ordinary
  loader := none
  accessFlags := 33
  super := sup
  interfaces := #[]
  cf := none
  fields := #[]
  methods := #[]
  instanceTypes := #[]
  staticTypes := #[]
  resolved := #[]
  callSites := []
  init := .initialized
  statics := none
  mirror := none

def pool0 : Array CpInfo := pool [(5, u "<init>"), (0, u "()V"), (1, .class_ 10), (1, u "java/lang/Object"), (85, u "clone"), (0, u "()Ljava/lang/Object;")] 26

def k0c0 : Code := { maxStack := 0, maxLocals := 1, code := object_method_1_code, exceptionTable := #[], attributes := #[] }
def k0m0 : Method := { name := "<init>", desc := "()V", sig := { parameters := [], returnType := none }, accessFlags := 1, code := some k0c0 }
def k0m1 : Method := { name := "clone", desc := "()Ljava/lang/Object;", sig := { parameters := [], returnType := some (.object "java/lang/Object") }, accessFlags := 260, code := none }
/-- java/lang/Object -/
def k0 : Class := { plain "java/lang/Object" none with
  accessFlags := 33
  interfaces := #[]
  cf := some (fileOf pool0 8 #[] #[{ accessFlags := 1, nameIndex := 5, descriptorIndex := 6, attributes := #[] }, { accessFlags := 260, nameIndex := 96, descriptorIndex := 97, attributes := #[] }] 33 0 #[] #[])
  fields := #[]
  methods := #[k0m0, k0m1]
  instanceTypes := #[]
  staticTypes := #[]
  resolved := Array.replicate 124 none
  statics := none }

def pool1 : Array CpInfo := pool [(2, .class_ 4), (1, u "java/lang/Object"), (0, u "<init>"), (0, u "()V"), (0, .methodref 8 9), (0, .class_ 10), (0, .nameAndType 11 12), (0, u "com/example/nisaba/nisaba/TsvFileUnescapePinLaw"), (0, u "isEscape"), (0, u "(I)Z"), (0, .methodref 8 14), (0, .nameAndType 15 16), (0, u "letter"), (0, u "(I)C"), (0, .methodref 8 18), (0, .nameAndType 19 16), (0, u "plain"), (0, .methodref 8 21), (0, .nameAndType 22 16), (0, u "meaning"), (0, .string 24), (0, u ""), (0, .string 26), (0, u "the column"), (0, .methodref 28 29), (0, .class_ 30), (0, .nameAndType 31 32), (0, u "com/example/nisaba/nisaba/TsvFile"), (0, u "unescape"), (0, u "(Ljava/lang/String;Ljava/lang/String;)Ljava/lang/String;"), (0, .methodref 34 35), (0, .class_ 36), (0, .nameAndType 37 38), (0, u "java/lang/String"), (0, u "equals"), (0, u "(Ljava/lang/Object;)Z"), (0, .methodref 34 40), (0, .nameAndType 41 42), (0, u "valueOf"), (0, u "(C)Ljava/lang/String;"), (0, .methodref 8 44), (0, .nameAndType 45 46), (0, u "put"), (0, u "([CII)I"), (0, .methodref 34 48), (0, .nameAndType 5 49), (0, u "([C)V"), (0, .methodref 34 51), (0, .nameAndType 52 53), (0, u "length"), (0, u "()I"), (0, .methodref 34 55), (0, .nameAndType 56 16), (0, u "charAt"), (0, .methodref 8 58), (0, .nameAndType 59 16), (0, u "out"), (3, u "law"), (0, u "(IIIJI)Z")] 4

def k1m0 : Method := { name := "<init>", desc := "()V", sig := { parameters := [], returnType := none }, accessFlags := 2, code := none }
def k1c1 : Code := { maxStack := 2, maxLocals := 2, code := method_2_code, exceptionTable := #[], attributes := #[] }
def k1m1 : Method := { name := "plain", desc := "(I)C", sig := { parameters := [.int], returnType := some .char }, accessFlags := 10, code := some k1c1 }
def k1c2 : Code := { maxStack := 2, maxLocals := 1, code := method_3_code, exceptionTable := #[], attributes := #[] }
def k1m2 : Method := { name := "isEscape", desc := "(I)Z", sig := { parameters := [.int], returnType := some .boolean }, accessFlags := 10, code := some k1c2 }
def k1c3 : Code := { maxStack := 2, maxLocals := 1, code := method_4_code, exceptionTable := #[], attributes := #[] }
def k1m3 : Method := { name := "letter", desc := "(I)C", sig := { parameters := [.int], returnType := some .char }, accessFlags := 10, code := some k1c3 }
def k1c4 : Code := { maxStack := 2, maxLocals := 1, code := method_5_code, exceptionTable := #[], attributes := #[] }
def k1m4 : Method := { name := "meaning", desc := "(I)C", sig := { parameters := [.int], returnType := some .char }, accessFlags := 10, code := some k1c4 }
def k1c5 : Code := { maxStack := 4, maxLocals := 3, code := method_6_code, exceptionTable := #[], attributes := #[] }
def k1m5 : Method := { name := "put", desc := "([CII)I", sig := { parameters := [(.array .char), .int, .int], returnType := some .int }, accessFlags := 10, code := some k1c5 }
def k1c6 : Code := { maxStack := 2, maxLocals := 1, code := method_7_code, exceptionTable := #[], attributes := #[] }
def k1m6 : Method := { name := "out", desc := "(I)C", sig := { parameters := [.int], returnType := some .char }, accessFlags := 10, code := some k1c6 }
def k1c7 : Code := { maxStack := 5, maxLocals := 14, code := code, exceptionTable := #[], attributes := #[] }
def k1m7 : Method := { name := "law", desc := "(IIIJI)Z", sig := { parameters := [.int, .int, .int, .long, .int], returnType := some .boolean }, accessFlags := 9, code := some k1c7 }
/-- com/example/nisaba/nisaba/TsvFileUnescapePinLaw -/
def k1 : Class := { plain "com/example/nisaba/nisaba/TsvFileUnescapePinLaw" (some 0) with
  accessFlags := 49
  interfaces := #[]
  cf := some (fileOf pool1 8 #[] #[{ accessFlags := 2, nameIndex := 5, descriptorIndex := 6, attributes := #[] }, { accessFlags := 10, nameIndex := 19, descriptorIndex := 16, attributes := #[] }, { accessFlags := 10, nameIndex := 11, descriptorIndex := 12, attributes := #[] }, { accessFlags := 10, nameIndex := 15, descriptorIndex := 16, attributes := #[] }, { accessFlags := 10, nameIndex := 22, descriptorIndex := 16, attributes := #[] }, { accessFlags := 10, nameIndex := 45, descriptorIndex := 46, attributes := #[] }, { accessFlags := 10, nameIndex := 59, descriptorIndex := 16, attributes := #[] }, { accessFlags := 9, nameIndex := 63, descriptorIndex := 64, attributes := #[] }] 49 2 #[] #[])
  fields := #[]
  methods := #[k1m0, k1m1, k1m2, k1m3, k1m4, k1m5, k1m6, k1m7]
  instanceTypes := #[]
  staticTypes := #[]
  resolved := Array.replicate 69 none
  statics := none }

def pool2 : Array CpInfo := pool [(1, .class_ 2), (0, u "java/io/Serializable"), (0, .class_ 4), (0, u "java/lang/Object")] 2

/-- java/io/Serializable -/
def k2 : Class := { plain "java/io/Serializable" (some 0) with
  accessFlags := 1537
  interfaces := #[]
  cf := some (fileOf pool2 1 #[] #[] 1537 3 #[] #[])
  fields := #[]
  methods := #[]
  instanceTypes := #[]
  staticTypes := #[]
  resolved := Array.replicate 7 none
  statics := none }

def pool3 : Array CpInfo := pool [(1, .class_ 2), (0, u "java/lang/Comparable"), (0, .class_ 4), (0, u "java/lang/Object")] 7

/-- java/lang/Comparable -/
def k3 : Class := { plain "java/lang/Comparable" (some 0) with
  accessFlags := 1537
  interfaces := #[]
  cf := some (fileOf pool3 1 #[] #[] 1537 3 #[] #[])
  fields := #[]
  methods := #[]
  instanceTypes := #[]
  staticTypes := #[]
  resolved := Array.replicate 12 none
  statics := none }

def pool4 : Array CpInfo := pool [(2, .class_ 4), (1, u "java/lang/CharSequence"), (42, .class_ 48), (0, u "java/lang/CharSequence$1CodePointIterator"), (10, .class_ 60), (0, u "java/lang/CharSequence$1CharIterator"), (5, .class_ 67), (0, u "java/lang/Object")] 63

/-- java/lang/CharSequence -/
def k4 : Class := { plain "java/lang/CharSequence" (some 0) with
  accessFlags := 1537
  interfaces := #[]
  cf := some (fileOf pool4 2 #[.nestMembers #[47, 59]] #[] 1537 66 #[] #[])
  fields := #[]
  methods := #[]
  instanceTypes := #[]
  staticTypes := #[]
  resolved := Array.replicate 131 none
  statics := none }

def pool5 : Array CpInfo := pool [(1, .class_ 2), (0, u "java/lang/constant/Constable"), (0, .class_ 4), (0, u "java/lang/Object")] 6

/-- java/lang/constant/Constable -/
def k5 : Class := { plain "java/lang/constant/Constable" (some 0) with
  accessFlags := 1537
  interfaces := #[]
  cf := some (fileOf pool5 1 #[] #[] 1537 3 #[] #[])
  fields := #[]
  methods := #[]
  instanceTypes := #[]
  staticTypes := #[]
  resolved := Array.replicate 11 none
  statics := none }

def pool6 : Array CpInfo := pool [(1, .class_ 2), (0, u "java/lang/constant/ConstantDesc"), (0, .class_ 4), (0, u "java/lang/Object")] 32

/-- java/lang/constant/ConstantDesc -/
def k6 : Class := { plain "java/lang/constant/ConstantDesc" (some 0) with
  accessFlags := 1537
  interfaces := #[]
  cf := some (fileOf pool6 1 #[] #[] 1537 3 #[] #[])
  fields := #[]
  methods := #[]
  instanceTypes := #[]
  staticTypes := #[]
  resolved := Array.replicate 37 none
  statics := none }

def pool7 : Array CpInfo := pool [(1, .methodref 2 3), (0, .class_ 4), (0, .nameAndType 5 6), (0, u "java/lang/Object"), (0, u "<init>"), (0, u "()V"), (2, .fieldref 10 11), (0, .class_ 12), (0, .nameAndType 13 14), (0, u "java/lang/String"), (0, u "value"), (0, u "[B"), (0, .fieldref 10 16), (0, .nameAndType 17 18), (0, u "coder"), (0, u "B"), (2, u "hash"), (0, u "I"), (2, u "hashIsZero"), (0, u "Z"), (0, .methodref 10 28), (0, .nameAndType 5 29), (0, u "([CIILjava/lang/Void;)V"), (8, .fieldref 10 39), (0, .nameAndType 40 26), (0, u "COMPACT_STRINGS"), (1, .class_ 44), (1, u "java/lang/StringUTF16"), (0, u "compress"), (1, .methodref 42 48), (0, .nameAndType 49 50), (0, u "coderFromArrayLen"), (0, u "([BI)B"), (2, u "toBytes"), (0, .methodref 55 56), (0, .class_ 57), (0, .nameAndType 58 59), (0, u "java/util/Arrays"), (0, u "copyOfRange"), (0, u "([BII)[B"), (47, .class_ 109), (1, u "java/lang/StringLatin1"), (32, u "()Z"), (34, .methodref 42 178), (0, .nameAndType 45 179), (0, u "([CII)[B"), (29, .methodref 10 210), (0, .nameAndType 5 211), (0, u "([BB)V"), (122, u "()I"), (0, .methodref 10 336), (0, .nameAndType 17 337), (0, u "()B"), (2, u "()[B"), (22, u "([BI)C"), (5, u "(C)Z"), (21, u "(II)V"), (35, u "(I)C"), (61, .methodref 10 490), (0, .nameAndType 5 491), (0, u "(Ljava/lang/AbstractStringBuilder;Ljava/lang/Void;)V"), (0, .methodref 10 493), (0, .nameAndType 494 142), (0, u "isLatin1"), (0, .methodref 107 496), (0, .nameAndType 497 363), (0, u "charAt"), (3, u "checkIndex"), (4, .nameAndType 507 334), (0, u "length"), (33, .methodref 107 542), (0, .nameAndType 543 544), (0, u "equals"), (0, u "([B[B)Z"), (4, .methodref 550 506), (0, .class_ 551), (0, u "java/lang/AbstractStringBuilder"), (0, .methodref 550 553), (0, .nameAndType 554 340), (0, u "getValue"), (18, u "(Ljava/lang/Object;)Z"), (1, .class_ 576), (0, u "java/lang/CharSequence"), (22, u "CASE_INSENSITIVE_ORDER"), (0, u "Ljava/util/Comparator;"), (181, u "valueOf"), (0, u "(C)Ljava/lang/String;"), (226, u "([C)V"), (4, .methodref 107 1016), (0, .nameAndType 1017 369), (0, u "canEncode"), (0, .methodref 107 1019), (0, .nameAndType 53 1020), (0, u "(C)[B"), (26, .methodref 550 493), (5, .fieldref 1054 1055), (0, .class_ 1056), (0, .nameAndType 1057 1058), (0, u "jdk/internal/util/Preconditions"), (0, u "SIOOBE_FORMATTER"), (0, u "Ljava/util/function/BiFunction;"), (0, .methodref 1054 1060), (0, .nameAndType 501 1061), (0, u "(IILjava/util/function/BiFunction;)I"), (39, u "serialPersistentFields"), (0, u "[Ljava/io/ObjectStreamField;"), (0, .class_ 1104), (0, u "java/lang/String$CaseInsensitiveComparator"), (1, .class_ 1107), (0, u "java/io/Serializable"), (0, .class_ 1109), (0, u "java/lang/Comparable"), (0, .class_ 1111), (0, u "java/lang/constant/Constable"), (0, .class_ 1113), (0, u "java/lang/constant/ConstantDesc"), (2, u "serialVersionUID"), (0, u "J"), (3, u "REPL"), (0, u "C"), (2, u "LATIN1"), (1, u "UTF16"), (105, u "(Ljava/lang/StringBuilder;)V")] 217

def k7m0 : Method := { name := "<init>", desc := "()V", sig := { parameters := [], returnType := none }, accessFlags := 1, code := none }
def k7c1 : Code := { maxStack := 5, maxLocals := 2, code := jdk_42_method_3_code, exceptionTable := #[], attributes := #[] }
def k7m1 : Method := { name := "<init>", desc := "([C)V", sig := { parameters := [(.array .char)], returnType := none }, accessFlags := 1, code := some k7c1 }
def k7c2 : Code := { maxStack := 3, maxLocals := 2, code := jdk_42_method_53_code, exceptionTable := #[], attributes := #[] }
def k7m2 : Method := { name := "<init>", desc := "(Ljava/lang/StringBuilder;)V", sig := { parameters := [(.object "java/lang/StringBuilder")], returnType := none }, accessFlags := 1, code := some k7c2 }
def k7c3 : Code := { maxStack := 2, maxLocals := 1, code := jdk_42_method_54_code, exceptionTable := #[], attributes := #[] }
def k7m3 : Method := { name := "length", desc := "()I", sig := { parameters := [], returnType := some .int }, accessFlags := 1, code := some k7c3 }
def k7c4 : Code := { maxStack := 2, maxLocals := 2, code := jdk_42_method_56_code, exceptionTable := #[], attributes := #[] }
def k7m4 : Method := { name := "charAt", desc := "(I)C", sig := { parameters := [.int], returnType := some .char }, accessFlags := 1, code := some k7c4 }
def k7c5 : Code := { maxStack := 2, maxLocals := 3, code := jdk_42_method_66_code, exceptionTable := #[], attributes := #[] }
def k7m5 : Method := { name := "equals", desc := "(Ljava/lang/Object;)Z", sig := { parameters := [(.object "java/lang/Object")], returnType := some .boolean }, accessFlags := 1, code := some k7c5 }
def k7c6 : Code := { maxStack := 4, maxLocals := 1, code := jdk_42_method_139_code, exceptionTable := #[], attributes := #[] }
def k7m6 : Method := { name := "valueOf", desc := "(C)Ljava/lang/String;", sig := { parameters := [.char], returnType := some (.object "java/lang/String") }, accessFlags := 9, code := some k7c6 }
def k7c7 : Code := { maxStack := 4, maxLocals := 6, code := jdk_42_method_149_code, exceptionTable := #[], attributes := #[] }
def k7m7 : Method := { name := "<init>", desc := "([CIILjava/lang/Void;)V", sig := { parameters := [(.array .char), .int, .int, (.object "java/lang/Void")], returnType := none }, accessFlags := 2, code := some k7c7 }
def k7c8 : Code := { maxStack := 5, maxLocals := 5, code := jdk_42_method_150_code, exceptionTable := #[], attributes := #[] }
def k7m8 : Method := { name := "<init>", desc := "(Ljava/lang/AbstractStringBuilder;Ljava/lang/Void;)V", sig := { parameters := [(.object "java/lang/AbstractStringBuilder"), (.object "java/lang/Void")], returnType := none }, accessFlags := 0, code := some k7c8 }
def k7c9 : Code := { maxStack := 2, maxLocals := 3, code := jdk_42_method_151_code, exceptionTable := #[], attributes := #[] }
def k7m9 : Method := { name := "<init>", desc := "([BB)V", sig := { parameters := [(.array .byte), .byte], returnType := none }, accessFlags := 0, code := some k7c9 }
def k7c10 : Code := { maxStack := 1, maxLocals := 1, code := jdk_42_method_152_code, exceptionTable := #[], attributes := #[] }
def k7m10 : Method := { name := "coder", desc := "()B", sig := { parameters := [], returnType := some .byte }, accessFlags := 0, code := some k7c10 }
def k7c11 : Code := { maxStack := 1, maxLocals := 1, code := jdk_42_method_154_code, exceptionTable := #[], attributes := #[] }
def k7m11 : Method := { name := "isLatin1", desc := "()Z", sig := { parameters := [], returnType := some .boolean }, accessFlags := 0, code := some k7c11 }
def k7c12 : Code := { maxStack := 3, maxLocals := 2, code := jdk_42_method_155_code, exceptionTable := #[], attributes := #[] }
def k7m12 : Method := { name := "checkIndex", desc := "(II)V", sig := { parameters := [.int, .int], returnType := none }, accessFlags := 8, code := some k7c12 }
/-- java/lang/String -/
def k7 : Class := { plain "java/lang/String" (some 0) with
  accessFlags := 49
  interfaces := #[2, 3, 4, 5, 6]
  cf := some (fileOf pool7 10 #[.nestMembers #[1103]] #[{ accessFlags := 1, nameIndex := 5, descriptorIndex := 6, attributes := #[] }, { accessFlags := 1, nameIndex := 5, descriptorIndex := 1010, attributes := #[] }, { accessFlags := 1, nameIndex := 5, descriptorIndex := 1233, attributes := #[] }, { accessFlags := 1, nameIndex := 507, descriptorIndex := 334, attributes := #[] }, { accessFlags := 1, nameIndex := 497, descriptorIndex := 427, attributes := #[] }, { accessFlags := 1, nameIndex := 543, descriptorIndex := 573, attributes := #[] }, { accessFlags := 9, nameIndex := 782, descriptorIndex := 783, attributes := #[] }, { accessFlags := 2, nameIndex := 5, descriptorIndex := 29, attributes := #[] }, { accessFlags := 0, nameIndex := 5, descriptorIndex := 491, attributes := #[] }, { accessFlags := 0, nameIndex := 5, descriptorIndex := 211, attributes := #[] }, { accessFlags := 0, nameIndex := 17, descriptorIndex := 337, attributes := #[] }, { accessFlags := 0, nameIndex := 494, descriptorIndex := 142, attributes := #[] }, { accessFlags := 8, nameIndex := 501, descriptorIndex := 391, attributes := #[] }] 49 2 #[1106, 1108, 575, 1110, 1112] #[{ accessFlags := 18, nameIndex := 13, descriptorIndex := 14, attributes := #[] }, { accessFlags := 18, nameIndex := 17, descriptorIndex := 18, attributes := #[] }, { accessFlags := 2, nameIndex := 21, descriptorIndex := 22, attributes := #[] }, { accessFlags := 2, nameIndex := 25, descriptorIndex := 26, attributes := #[] }, { accessFlags := 26, nameIndex := 1116, descriptorIndex := 1117, attributes := #[] }, { accessFlags := 24, nameIndex := 40, descriptorIndex := 26, attributes := #[] }, { accessFlags := 26, nameIndex := 1101, descriptorIndex := 1102, attributes := #[] }, { accessFlags := 26, nameIndex := 1121, descriptorIndex := 1122, attributes := #[] }, { accessFlags := 25, nameIndex := 599, descriptorIndex := 600, attributes := #[] }, { accessFlags := 24, nameIndex := 1125, descriptorIndex := 18, attributes := #[] }, { accessFlags := 24, nameIndex := 1127, descriptorIndex := 18, attributes := #[] }])
  fields := #[{ name := "value", type := (.array .byte), accessFlags := 18, slot := 0, constantValue := 0 }, { name := "coder", type := .byte, accessFlags := 18, slot := 1, constantValue := 0 }, { name := "hash", type := .int, accessFlags := 2, slot := 2, constantValue := 0 }, { name := "hashIsZero", type := .boolean, accessFlags := 2, slot := 3, constantValue := 0 }, { name := "serialVersionUID", type := .long, accessFlags := 26, slot := 0, constantValue := 0 }, { name := "COMPACT_STRINGS", type := .boolean, accessFlags := 24, slot := 1, constantValue := 0 }, { name := "serialPersistentFields", type := (.array (.object "java/io/ObjectStreamField")), accessFlags := 26, slot := 2, constantValue := 0 }, { name := "REPL", type := .char, accessFlags := 26, slot := 3, constantValue := 0 }, { name := "CASE_INSENSITIVE_ORDER", type := (.object "java/util/Comparator"), accessFlags := 25, slot := 4, constantValue := 0 }, { name := "LATIN1", type := .byte, accessFlags := 24, slot := 5, constantValue := 0 }, { name := "UTF16", type := .byte, accessFlags := 24, slot := 6, constantValue := 0 }]
  methods := #[k7m0, k7m1, k7m2, k7m3, k7m4, k7m5, k7m6, k7m7, k7m8, k7m9, k7m10, k7m11, k7m12]
  instanceTypes := #[(.array .byte), .byte, .int, .boolean]
  staticTypes := #[.long, .boolean, (.array (.object "java/io/ObjectStreamField")), .char, (.object "java/util/Comparator"), .byte, .byte]
  resolved := Array.replicate 1451 none
  statics := some 0 }

def pool8 : Array CpInfo := pool [(2, .class_ 4), (1, u "java/lang/Object"), (0, u "<init>"), (0, u "()V"), (24, .class_ 32), (0, u "java/lang/String"), (31, u "()I"), (1, .nameAndType 5 67), (0, u "(I)V"), (3, .class_ 72), (0, u "com/example/nisaba/nisaba/TsvFile$Line"), (10, .class_ 84), (0, u "java/lang/StringBuilder"), (0, .methodref 31 86), (0, .nameAndType 87 64), (0, u "length"), (0, .methodref 83 66), (8, u "append"), (7, .methodref 83 106), (0, .nameAndType 97 107), (0, u "(C)Ljava/lang/StringBuilder;"), (0, .methodref 83 109), (0, .nameAndType 110 111), (0, u "toString"), (0, u "()Ljava/lang/String;"), (0, .methodref 31 113), (0, .nameAndType 114 115), (0, u "charAt"), (0, u "(I)C"), (4, .class_ 121), (0, u "com/example/nisaba/nisaba/TsvFile"), (0, u "BYTE_ORDER_MARK"), (0, u "Ljava/lang/String;"), (16, u "unescape"), (0, u "(Ljava/lang/String;Ljava/lang/String;)Ljava/lang/String;")] 25

def k8m0 : Method := { name := "<init>", desc := "()V", sig := { parameters := [], returnType := none }, accessFlags := 2, code := none }
def k8c1 : Code := { maxStack := 3, maxLocals := 6, code := prog_22_method_4_code, exceptionTable := #[], attributes := #[] }
def k8m1 : Method := { name := "unescape", desc := "(Ljava/lang/String;Ljava/lang/String;)Ljava/lang/String;", sig := { parameters := [(.object "java/lang/String"), (.object "java/lang/String")], returnType := some (.object "java/lang/String") }, accessFlags := 8, code := some k8c1 }
/-- com/example/nisaba/nisaba/TsvFile -/
def k8 : Class := { plain "com/example/nisaba/nisaba/TsvFile" (some 0) with
  accessFlags := 48
  interfaces := #[]
  cf := some (fileOf pool8 120 #[.nestMembers #[71]] #[{ accessFlags := 2, nameIndex := 5, descriptorIndex := 6, attributes := #[] }, { accessFlags := 8, nameIndex := 140, descriptorIndex := 141, attributes := #[] }] 48 2 #[] #[{ accessFlags := 26, nameIndex := 122, descriptorIndex := 123, attributes := #[] }])
  fields := #[{ name := "BYTE_ORDER_MARK", type := (.object "java/lang/String"), accessFlags := 26, slot := 0, constantValue := 0 }]
  methods := #[k8m0, k8m1]
  instanceTypes := #[]
  staticTypes := #[(.object "java/lang/String")]
  resolved := Array.replicate 167 none
  statics := none }

def pool9 : Array CpInfo := pool [(1, .class_ 2), (0, u "java/lang/Appendable"), (0, .class_ 4), (0, u "java/lang/Object")] 9

/-- java/lang/Appendable -/
def k9 : Class := { plain "java/lang/Appendable" (some 0) with
  accessFlags := 1537
  interfaces := #[]
  cf := some (fileOf pool9 1 #[] #[] 1537 3 #[] #[])
  fields := #[]
  methods := #[]
  instanceTypes := #[]
  staticTypes := #[]
  resolved := Array.replicate 14 none
  statics := none }

def pool10 : Array CpInfo := pool [(1, .class_ 2), (0, u "java/lang/String"), (0, .methodref 4 5), (0, .class_ 6), (0, .nameAndType 7 8), (0, u "java/lang/Object"), (0, u "<init>"), (0, u "()V"), (1, .class_ 12), (1, u "java/lang/AbstractStringBuilder"), (0, u "EMPTYVALUE"), (0, u "[B"), (0, .fieldref 10 16), (0, .nameAndType 17 14), (0, u "value"), (0, .fieldref 1 19), (0, .nameAndType 20 21), (0, u "COMPACT_STRINGS"), (0, u "Z"), (0, .fieldref 10 23), (0, .nameAndType 24 25), (0, u "coder"), (0, u "B"), (8, u "length"), (0, u "()I"), (9, u "append"), (2, .class_ 49), (0, u "java/lang/CharSequence"), (25, u "maybeLatin1"), (3, .fieldref 10 80), (0, .nameAndType 81 82), (0, u "count"), (0, u "I"), (0, .methodref 10 84), (0, .nameAndType 85 86), (0, u "isLatin1"), (0, u "()Z"), (1, .class_ 90), (1, u "java/lang/StringLatin1"), (9, .methodref 10 101), (0, .nameAndType 102 103), (0, u "ensureCapacityInternal"), (0, u "(I)V"), (87, .methodref 88 192), (0, .nameAndType 193 194), (0, u "canEncode"), (0, u "(C)Z"), (97, u "(C)Ljava/lang/AbstractStringBuilder;"), (110, u "()[B"), (40, .class_ 445), (0, u "java/lang/Appendable"), (106, u "getValue")] 56

def k10m0 : Method := { name := "<init>", desc := "()V", sig := { parameters := [], returnType := none }, accessFlags := 0, code := none }
def k10c1 : Code := { maxStack := 2, maxLocals := 2, code := jdk_68_method_2_code, exceptionTable := #[], attributes := #[] }
def k10m1 : Method := { name := "<init>", desc := "(I)V", sig := { parameters := [.int], returnType := none }, accessFlags := 0, code := some k10c1 }
def k10c2 : Code := { maxStack := 1, maxLocals := 1, code := jdk_68_method_6_code, exceptionTable := #[], attributes := #[] }
def k10m2 : Method := { name := "length", desc := "()I", sig := { parameters := [], returnType := some .int }, accessFlags := 1, code := some k10c2 }
def k10c3 : Code := { maxStack := 4, maxLocals := 3, code := jdk_68_method_9_code, exceptionTable := #[], attributes := #[] }
def k10m3 : Method := { name := "ensureCapacityInternal", desc := "(I)V", sig := { parameters := [.int], returnType := none }, accessFlags := 2, code := some k10c3 }
def k10c4 : Code := { maxStack := 5, maxLocals := 2, code := jdk_68_method_31_code, exceptionTable := #[], attributes := #[] }
def k10m4 : Method := { name := "append", desc := "(C)Ljava/lang/AbstractStringBuilder;", sig := { parameters := [.char], returnType := some (.object "java/lang/AbstractStringBuilder") }, accessFlags := 1, code := some k10c4 }
def k10c5 : Code := { maxStack := 1, maxLocals := 1, code := jdk_68_method_64_code, exceptionTable := #[], attributes := #[] }
def k10m5 : Method := { name := "getValue", desc := "()[B", sig := { parameters := [], returnType := some (.array .byte) }, accessFlags := 16, code := some k10c5 }
def k10c6 : Code := { maxStack := 1, maxLocals := 1, code := jdk_68_method_68_code, exceptionTable := #[], attributes := #[] }
def k10m6 : Method := { name := "isLatin1", desc := "()Z", sig := { parameters := [], returnType := some .boolean }, accessFlags := 16, code := some k10c6 }
/-- java/lang/AbstractStringBuilder -/
def k10 : Class := { plain "java/lang/AbstractStringBuilder" (some 0) with
  accessFlags := 1056
  interfaces := #[9, 4]
  cf := some (fileOf pool10 10 #[] #[{ accessFlags := 0, nameIndex := 7, descriptorIndex := 8, attributes := #[] }, { accessFlags := 0, nameIndex := 7, descriptorIndex := 103, attributes := #[] }, { accessFlags := 1, nameIndex := 34, descriptorIndex := 35, attributes := #[] }, { accessFlags := 2, nameIndex := 102, descriptorIndex := 103, attributes := #[] }, { accessFlags := 1, nameIndex := 45, descriptorIndex := 292, attributes := #[] }, { accessFlags := 16, nameIndex := 552, descriptorIndex := 403, attributes := #[] }, { accessFlags := 16, nameIndex := 85, descriptorIndex := 86, attributes := #[] }] 1056 4 #[444, 48] #[{ accessFlags := 0, nameIndex := 17, descriptorIndex := 14, attributes := #[] }, { accessFlags := 0, nameIndex := 24, descriptorIndex := 25, attributes := #[] }, { accessFlags := 0, nameIndex := 75, descriptorIndex := 21, attributes := #[] }, { accessFlags := 0, nameIndex := 81, descriptorIndex := 82, attributes := #[] }, { accessFlags := 26, nameIndex := 13, descriptorIndex := 14, attributes := #[] }])
  fields := #[{ name := "value", type := (.array .byte), accessFlags := 0, slot := 0, constantValue := 0 }, { name := "coder", type := .byte, accessFlags := 0, slot := 1, constantValue := 0 }, { name := "maybeLatin1", type := .boolean, accessFlags := 0, slot := 2, constantValue := 0 }, { name := "count", type := .int, accessFlags := 0, slot := 3, constantValue := 0 }, { name := "EMPTYVALUE", type := (.array .byte), accessFlags := 26, slot := 0, constantValue := 0 }]
  methods := #[k10m0, k10m1, k10m2, k10m3, k10m4, k10m5, k10m6]
  instanceTypes := #[(.array .byte), .byte, .boolean, .int]
  staticTypes := #[(.array .byte)]
  resolved := Array.replicate 609 none
  statics := none }

def pool11 : Array CpInfo := pool [(1, .methodref 2 3), (0, .class_ 4), (0, .nameAndType 5 6), (0, u "java/lang/AbstractStringBuilder"), (0, u "<init>"), (0, u "(I)V"), (11, .class_ 20), (1, u "java/lang/String"), (3, .class_ 26), (1, u "java/lang/StringBuilder"), (0, u "append"), (22, .methodref 2 51), (0, .nameAndType 27 52), (0, u "(C)Ljava/lang/AbstractStringBuilder;"), (84, .methodref 18 138), (0, .nameAndType 5 139), (0, u "(Ljava/lang/StringBuilder;)V"), (5, u "()V"), (10, u "()I"), (129, u "(C)Ljava/lang/StringBuilder;"), (56, .methodref 2 344), (0, .nameAndType 345 156), (0, u "length"), (3, .class_ 350), (0, u "java/lang/Appendable"), (0, .class_ 352), (0, u "java/io/Serializable"), (0, .class_ 354), (0, u "java/lang/Comparable"), (0, .class_ 356), (0, u "java/lang/CharSequence"), (0, u "serialVersionUID"), (0, u "J"), (40, u "toString"), (0, u "()Ljava/lang/String;")] 21

def k11m0 : Method := { name := "<init>", desc := "()V", sig := { parameters := [], returnType := none }, accessFlags := 1, code := none }
def k11c1 : Code := { maxStack := 2, maxLocals := 2, code := jdk_67_method_2_code, exceptionTable := #[], attributes := #[] }
def k11m1 : Method := { name := "<init>", desc := "(I)V", sig := { parameters := [.int], returnType := none }, accessFlags := 1, code := some k11c1 }
def k11c2 : Code := { maxStack := 2, maxLocals := 2, code := jdk_67_method_14_code, exceptionTable := #[], attributes := #[] }
def k11m2 : Method := { name := "append", desc := "(C)Ljava/lang/StringBuilder;", sig := { parameters := [.char], returnType := some (.object "java/lang/StringBuilder") }, accessFlags := 1, code := some k11c2 }
def k11c3 : Code := { maxStack := 3, maxLocals := 1, code := jdk_67_method_42_code, exceptionTable := #[], attributes := #[] }
def k11m3 : Method := { name := "toString", desc := "()Ljava/lang/String;", sig := { parameters := [], returnType := some (.object "java/lang/String") }, accessFlags := 1, code := some k11c3 }
def k11c4 : Code := { maxStack := 1, maxLocals := 1, code := jdk_67_method_93_code, exceptionTable := #[], attributes := #[] }
def k11m4 : Method := { name := "length", desc := "()I", sig := { parameters := [], returnType := some .int }, accessFlags := 4161, code := some k11c4 }
/-- java/lang/StringBuilder -/
def k11 : Class := { plain "java/lang/StringBuilder" (some 10) with
  accessFlags := 49
  interfaces := #[9, 2, 3, 4]
  cf := some (fileOf pool11 24 #[] #[{ accessFlags := 1, nameIndex := 5, descriptorIndex := 145, attributes := #[] }, { accessFlags := 1, nameIndex := 5, descriptorIndex := 6, attributes := #[] }, { accessFlags := 1, nameIndex := 27, descriptorIndex := 286, attributes := #[] }, { accessFlags := 1, nameIndex := 399, descriptorIndex := 400, attributes := #[] }, { accessFlags := 4161, nameIndex := 345, descriptorIndex := 156, attributes := #[] }] 49 2 #[349, 351, 353, 355] #[{ accessFlags := 24, nameIndex := 357, descriptorIndex := 358, attributes := #[] }])
  fields := #[{ name := "serialVersionUID", type := .long, accessFlags := 24, slot := 0, constantValue := 0 }]
  methods := #[k11m0, k11m1, k11m2, k11m3, k11m4]
  instanceTypes := #[(.array .byte), .byte, .boolean, .int]
  staticTypes := #[.long]
  resolved := Array.replicate 422 none
  statics := none }

def pool12 : Array CpInfo := pool [(2, .class_ 4), (1, u "java/lang/Object"), (0, u "<init>"), (0, u "()V"), (7, .class_ 16), (1, u "java/util/Arrays"), (57, .class_ 76), (1, u "java/util/Arrays$NaturalOrder"), (32, u "()Ljava/lang/Object;"), (3, .class_ 115), (1, u "java/util/Arrays$LegacyMergeSort"), (1, u "Z"), (10, .nameAndType 129 109), (0, u "clone"), (9, u "copyOfRange"), (10, .methodref 151 152), (0, .class_ 153), (0, .nameAndType 154 155), (0, u "java/lang/System"), (0, u "arraycopy"), (0, u "(Ljava/lang/Object;ILjava/lang/Object;II)V"), (148, .methodref 305 306), (0, .class_ 307), (0, .nameAndType 308 309), (0, u "java/lang/Math"), (0, u "min"), (0, u "(II)I"), (0, .methodref 311 128), (0, .class_ 312), (0, u "[B"), (26, .methodref 14 340), (0, .nameAndType 341 342), (0, u "copyOfRangeByte"), (0, u "([BII)[B"), (0, .methodref 14 344), (0, .nameAndType 345 346), (0, u "checkLength"), (0, u "(II)V"), (28, .class_ 376), (0, u "java/util/Arrays$ArrayList"), (68, u "$assertionsDisabled"), (269, u "MIN_ARRAY_SORT_GRAN"), (0, u "I"), (2, u "INSERTIONSORT_THRESHOLD"), (255, .class_ 976), (0, u "java/util/Arrays$ArrayItr")] 52

def k12m0 : Method := { name := "<init>", desc := "()V", sig := { parameters := [], returnType := none }, accessFlags := 2, code := none }
def k12c1 : Code := { maxStack := 4, maxLocals := 2, code := jdk_65_method_131_code, exceptionTable := #[], attributes := #[] }
def k12m1 : Method := { name := "checkLength", desc := "(II)V", sig := { parameters := [.int, .int], returnType := none }, accessFlags := 10, code := some k12c1 }
def k12c2 : Code := { maxStack := 3, maxLocals := 3, code := jdk_65_method_132_code, exceptionTable := #[], attributes := #[] }
def k12m2 : Method := { name := "copyOfRange", desc := "([BII)[B", sig := { parameters := [(.array .byte), .int, .int], returnType := some (.array .byte) }, accessFlags := 9, code := some k12c2 }
def k12c3 : Code := { maxStack := 6, maxLocals := 5, code := jdk_65_method_133_code, exceptionTable := #[], attributes := #[] }
def k12m3 : Method := { name := "copyOfRangeByte", desc := "([BII)[B", sig := { parameters := [(.array .byte), .int, .int], returnType := some (.array .byte) }, accessFlags := 10, code := some k12c3 }
/-- java/util/Arrays -/
def k12 : Class := { plain "java/util/Arrays" (some 0) with
  accessFlags := 49
  interfaces := #[]
  cf := some (fileOf pool12 14 #[.nestMembers #[975, 375, 113, 74]] #[{ accessFlags := 2, nameIndex := 5, descriptorIndex := 6, attributes := #[] }, { accessFlags := 10, nameIndex := 345, descriptorIndex := 346, attributes := #[] }, { accessFlags := 9, nameIndex := 139, descriptorIndex := 342, attributes := #[] }, { accessFlags := 10, nameIndex := 341, descriptorIndex := 342, attributes := #[] }] 49 2 #[] #[{ accessFlags := 26, nameIndex := 715, descriptorIndex := 716, attributes := #[] }, { accessFlags := 26, nameIndex := 719, descriptorIndex := 716, attributes := #[] }, { accessFlags := 4120, nameIndex := 445, descriptorIndex := 117, attributes := #[] }])
  fields := #[{ name := "MIN_ARRAY_SORT_GRAN", type := .int, accessFlags := 26, slot := 0, constantValue := 0 }, { name := "INSERTIONSORT_THRESHOLD", type := .int, accessFlags := 26, slot := 1, constantValue := 0 }, { name := "$assertionsDisabled", type := .boolean, accessFlags := 4120, slot := 2, constantValue := 0 }]
  methods := #[k12m0, k12m1, k12m2, k12m3]
  instanceTypes := #[]
  staticTypes := #[.int, .int, .boolean]
  resolved := Array.replicate 1029 none
  statics := none }

def pool13 : Array CpInfo := pool [(1, .class_ 2), (0, u "java/lang/Cloneable"), (0, .class_ 4), (0, u "java/lang/Object")] 2

/-- java/lang/Cloneable -/
def k13 : Class := { plain "java/lang/Cloneable" (some 0) with
  accessFlags := 1537
  interfaces := #[]
  cf := some (fileOf pool13 1 #[] #[] 1537 3 #[] #[])
  fields := #[]
  methods := #[]
  instanceTypes := #[]
  staticTypes := #[]
  resolved := Array.replicate 7 none
  statics := none }

def pool14 : Array CpInfo := pool [(1, .class_ 2), (0, u "java/lang/String"), (1, .class_ 6), (1, u "java/lang/Object"), (0, u "<init>"), (0, u "()V"), (0, .methodref 1 10), (0, .nameAndType 11 12), (0, u "checkIndex"), (0, u "(II)V"), (1, .class_ 16), (1, u "java/lang/StringLatin1"), (36, u "([BI)C"), (36, u "canEncode"), (14, u "(C)Z"), (15, u "$assertionsDisabled"), (0, u "Z"), (98, .class_ 223), (1, u "java/lang/StringLatin1$LinesSpliterator"), (28, u "charAt"), (28, u "equals"), (0, u "([B[B)Z"), (97, u "toBytes"), (1, u "(C)[B"), (7, .class_ 391), (0, u "java/lang/StringLatin1$CharsSpliterator")] 3

def k14m0 : Method := { name := "<init>", desc := "()V", sig := { parameters := [], returnType := none }, accessFlags := 0, code := none }
def k14c1 : Code := { maxStack := 2, maxLocals := 2, code := jdk_43_method_2_code, exceptionTable := #[], attributes := #[] }
def k14m1 : Method := { name := "charAt", desc := "([BI)C", sig := { parameters := [(.array .byte), .int], returnType := some .char }, accessFlags := 9, code := some k14c1 }
def k14c2 : Code := { maxStack := 2, maxLocals := 1, code := jdk_43_method_3_code, exceptionTable := #[], attributes := #[] }
def k14m2 : Method := { name := "canEncode", desc := "(C)Z", sig := { parameters := [.char], returnType := some .boolean }, accessFlags := 9, code := some k14c2 }
def k14c3 : Code := { maxStack := 3, maxLocals := 3, code := jdk_43_method_13_code, exceptionTable := #[], attributes := #[] }
def k14m3 : Method := { name := "equals", desc := "([B[B)Z", sig := { parameters := [(.array .byte), (.array .byte)], returnType := some .boolean }, accessFlags := 9, code := some k14c3 }
def k14c4 : Code := { maxStack := 4, maxLocals := 1, code := jdk_43_method_46_code, exceptionTable := #[], attributes := #[] }
def k14m4 : Method := { name := "toBytes", desc := "(C)[B", sig := { parameters := [.char], returnType := some (.array .byte) }, accessFlags := 9, code := some k14c4 }
/-- java/lang/StringLatin1 -/
def k14 : Class := { plain "java/lang/StringLatin1" (some 0) with
  accessFlags := 48
  interfaces := #[]
  cf := some (fileOf pool14 14 #[.nestMembers #[390, 221]] #[{ accessFlags := 0, nameIndex := 7, descriptorIndex := 8, attributes := #[] }, { accessFlags := 9, nameIndex := 252, descriptorIndex := 53, attributes := #[] }, { accessFlags := 9, nameIndex := 90, descriptorIndex := 105, attributes := #[] }, { accessFlags := 9, nameIndex := 281, descriptorIndex := 282, attributes := #[] }, { accessFlags := 9, nameIndex := 380, descriptorIndex := 382, attributes := #[] }] 48 4 #[] #[{ accessFlags := 4120, nameIndex := 121, descriptorIndex := 122, attributes := #[] }])
  fields := #[{ name := "$assertionsDisabled", type := .boolean, accessFlags := 4120, slot := 0, constantValue := 0 }]
  methods := #[k14m0, k14m1, k14m2, k14m3, k14m4]
  instanceTypes := #[]
  staticTypes := #[.boolean]
  resolved := Array.replicate 395 none
  statics := none }

def pool15 : Array CpInfo := pool [(6, .class_ 8), (1, u "java/lang/Object"), (0, u "<init>"), (0, u "()V"), (1, .class_ 14), (1, u "java/lang/StringUTF16"), (31, u "$assertionsDisabled"), (0, u "Z"), (13, u "HI_BYTE_SHIFT"), (0, u "I"), (2, u "LO_BYTE_SHIFT"), (49, .methodref 12 116), (0, .nameAndType 117 118), (0, u "compress"), (0, u "([CI[BII)I"), (3, u "([CII)[B"), (138, u "coderFromArrayLen"), (0, u "([BI)B"), (106, .class_ 371), (1, u "java/lang/StringUTF16$LinesSpliterator"), (58, u "MAX_LENGTH"), (196, .class_ 628), (0, u "java/lang/StringUTF16$CodePointsSpliterator"), (0, .class_ 630), (0, u "java/lang/StringUTF16$CharsSpliterator")] 4

def k15m0 : Method := { name := "<init>", desc := "()V", sig := { parameters := [], returnType := none }, accessFlags := 0, code := none }
def k15c1 : Code := { maxStack := 2, maxLocals := 2, code := jdk_52_method_15_code, exceptionTable := #[], attributes := #[] }
def k15m1 : Method := { name := "coderFromArrayLen", desc := "([BI)B", sig := { parameters := [(.array .byte), .int], returnType := some .byte }, accessFlags := 8, code := some k15c1 }
def k15c2 : Code := { maxStack := 5, maxLocals := 6, code := jdk_52_method_16_code, exceptionTable := #[], attributes := #[] }
def k15m2 : Method := { name := "compress", desc := "([CII)[B", sig := { parameters := [(.array .char), .int, .int], returnType := some (.array .byte) }, accessFlags := 9, code := some k15c2 }
def k15c3 : Code := { maxStack := 3, maxLocals := 7, code := jdk_52_method_21_code, exceptionTable := #[], attributes := #[] }
def k15m3 : Method := { name := "compress", desc := "([CI[BII)I", sig := { parameters := [(.array .char), .int, (.array .byte), .int, .int], returnType := some .int }, accessFlags := 9, code := some k15c3 }
/-- java/lang/StringUTF16 -/
def k15 : Class := { plain "java/lang/StringUTF16" (some 0) with
  accessFlags := 48
  interfaces := #[]
  cf := some (fileOf pool15 12 #[.nestMembers #[627, 629, 369]] #[{ accessFlags := 0, nameIndex := 9, descriptorIndex := 10, attributes := #[] }, { accessFlags := 8, nameIndex := 261, descriptorIndex := 262, attributes := #[] }, { accessFlags := 9, nameIndex := 117, descriptorIndex := 122, attributes := #[] }, { accessFlags := 9, nameIndex := 117, descriptorIndex := 118, attributes := #[] }] 48 6 #[] #[{ accessFlags := 26, nameIndex := 61, descriptorIndex := 62, attributes := #[] }, { accessFlags := 26, nameIndex := 65, descriptorIndex := 62, attributes := #[] }, { accessFlags := 24, nameIndex := 430, descriptorIndex := 62, attributes := #[] }, { accessFlags := 4120, nameIndex := 46, descriptorIndex := 47, attributes := #[] }])
  fields := #[{ name := "HI_BYTE_SHIFT", type := .int, accessFlags := 26, slot := 0, constantValue := 0 }, { name := "LO_BYTE_SHIFT", type := .int, accessFlags := 26, slot := 1, constantValue := 0 }, { name := "MAX_LENGTH", type := .int, accessFlags := 24, slot := 2, constantValue := 0 }, { name := "$assertionsDisabled", type := .boolean, accessFlags := 4120, slot := 3, constantValue := 0 }]
  methods := #[k15m0, k15m1, k15m2, k15m3]
  instanceTypes := #[]
  staticTypes := #[.int, .int, .int, .boolean]
  resolved := Array.replicate 635 none
  statics := none }

def pool16 : Array CpInfo := pool [(2, .class_ 4), (1, u "java/lang/Object"), (0, u "<init>"), (0, u "()V"), (17, .class_ 26), (1, u "jdk/internal/util/Preconditions"), (6, u "checkIndex"), (21, .class_ 56), (0, u "jdk/internal/util/Preconditions$4"), (57, .class_ 115), (0, u "jdk/internal/util/Preconditions$1"), (7, u "SIOOBE_FORMATTER"), (0, u "Ljava/util/function/BiFunction;"), (0, .class_ 126), (0, u "jdk/internal/util/Preconditions$2"), (3, u "AIOOBE_FORMATTER"), (0, .class_ 132), (0, u "jdk/internal/util/Preconditions$3"), (3, u "IOOBE_FORMATTER"), (41, u "(IILjava/util/function/BiFunction;)I")] 15

def k16m0 : Method := { name := "<init>", desc := "()V", sig := { parameters := [], returnType := none }, accessFlags := 1, code := none }
def k16c1 : Code := { maxStack := 3, maxLocals := 3, code := jdk_41_method_11_code, exceptionTable := #[], attributes := #[] }
def k16m1 : Method := { name := "checkIndex", desc := "(IILjava/util/function/BiFunction;)I", sig := { parameters := [.int, .int, (.object "java/util/function/BiFunction")], returnType := some .int }, accessFlags := 9, code := some k16c1 }
/-- jdk/internal/util/Preconditions -/
def k16 : Class := { plain "jdk/internal/util/Preconditions" (some 0) with
  accessFlags := 33
  interfaces := #[]
  cf := some (fileOf pool16 24 #[.nestMembers #[55, 131, 125, 114]] #[{ accessFlags := 1, nameIndex := 5, descriptorIndex := 6, attributes := #[] }, { accessFlags := 9, nameIndex := 33, descriptorIndex := 178, attributes := #[] }] 33 2 #[] #[{ accessFlags := 25, nameIndex := 123, descriptorIndex := 124, attributes := #[] }, { accessFlags := 25, nameIndex := 130, descriptorIndex := 124, attributes := #[] }, { accessFlags := 25, nameIndex := 136, descriptorIndex := 124, attributes := #[] }])
  fields := #[{ name := "SIOOBE_FORMATTER", type := (.object "java/util/function/BiFunction"), accessFlags := 25, slot := 0, constantValue := 0 }, { name := "AIOOBE_FORMATTER", type := (.object "java/util/function/BiFunction"), accessFlags := 25, slot := 1, constantValue := 0 }, { name := "IOOBE_FORMATTER", type := (.object "java/util/function/BiFunction"), accessFlags := 25, slot := 2, constantValue := 0 }]
  methods := #[k16m0, k16m1]
  instanceTypes := #[]
  staticTypes := #[(.object "java/util/function/BiFunction"), (.object "java/util/function/BiFunction"), (.object "java/util/function/BiFunction")]
  resolved := Array.replicate 194 none
  statics := some 1 }

def pool17 : Array CpInfo := pool [(1, .class_ 2), (0, u "java/lang/Math"), (1, .class_ 6), (1, u "java/lang/Object"), (0, u "<init>"), (0, u "()V"), (89, .class_ 100), (1, u "java/lang/Math$RandomNumberGeneratorHolder"), (71, u "negativeZeroFloatBits"), (0, u "J"), (2, u "negativeZeroDoubleBits"), (24, u "min"), (43, u "$assertionsDisabled"), (0, u "Z"), (88, u "(II)I"), (2, u "twoToTheDoubleScaleDown"), (0, u "D"), (4, u "twoToTheDoubleScaleUp"), (9, u "E"), (3, u "PI"), (2, u "TAU"), (2, u "DEGREES_TO_RADIANS"), (0, u "RADIANS_TO_DEGREES")] 94

def k17m0 : Method := { name := "<init>", desc := "()V", sig := { parameters := [], returnType := none }, accessFlags := 2, code := none }
def k17c1 : Code := { maxStack := 2, maxLocals := 2, code := jdk_29_method_69_code, exceptionTable := #[], attributes := #[] }
def k17m1 : Method := { name := "min", desc := "(II)I", sig := { parameters := [.int, .int], returnType := some .int }, accessFlags := 9, code := some k17c1 }
/-- java/lang/Math -/
def k17 : Class := { plain "java/lang/Math" (some 0) with
  accessFlags := 49
  interfaces := #[]
  cf := some (fileOf pool17 1 #[.nestMembers #[98]] #[{ accessFlags := 2, nameIndex := 7, descriptorIndex := 8, attributes := #[] }, { accessFlags := 9, nameIndex := 201, descriptorIndex := 335, attributes := #[] }] 49 4 #[] #[{ accessFlags := 25, nameIndex := 354, descriptorIndex := 339, attributes := #[] }, { accessFlags := 25, nameIndex := 358, descriptorIndex := 339, attributes := #[] }, { accessFlags := 25, nameIndex := 361, descriptorIndex := 339, attributes := #[] }, { accessFlags := 26, nameIndex := 364, descriptorIndex := 339, attributes := #[] }, { accessFlags := 26, nameIndex := 365, descriptorIndex := 339, attributes := #[] }, { accessFlags := 26, nameIndex := 172, descriptorIndex := 173, attributes := #[] }, { accessFlags := 26, nameIndex := 176, descriptorIndex := 173, attributes := #[] }, { accessFlags := 8, nameIndex := 344, descriptorIndex := 339, attributes := #[] }, { accessFlags := 8, nameIndex := 338, descriptorIndex := 339, attributes := #[] }, { accessFlags := 4120, nameIndex := 245, descriptorIndex := 246, attributes := #[] }])
  fields := #[{ name := "E", type := .double, accessFlags := 25, slot := 0, constantValue := 0 }, { name := "PI", type := .double, accessFlags := 25, slot := 1, constantValue := 0 }, { name := "TAU", type := .double, accessFlags := 25, slot := 2, constantValue := 0 }, { name := "DEGREES_TO_RADIANS", type := .double, accessFlags := 26, slot := 3, constantValue := 0 }, { name := "RADIANS_TO_DEGREES", type := .double, accessFlags := 26, slot := 4, constantValue := 0 }, { name := "negativeZeroFloatBits", type := .long, accessFlags := 26, slot := 5, constantValue := 0 }, { name := "negativeZeroDoubleBits", type := .long, accessFlags := 26, slot := 6, constantValue := 0 }, { name := "twoToTheDoubleScaleUp", type := .double, accessFlags := 8, slot := 7, constantValue := 0 }, { name := "twoToTheDoubleScaleDown", type := .double, accessFlags := 8, slot := 8, constantValue := 0 }, { name := "$assertionsDisabled", type := .boolean, accessFlags := 4120, slot := 9, constantValue := 0 }]
  methods := #[k17m0, k17m1]
  instanceTypes := #[]
  staticTypes := #[.double, .double, .double, .double, .double, .long, .long, .double, .double, .boolean]
  resolved := Array.replicate 460 none
  statics := none }

def pool18 : Array CpInfo := pool [(2, .class_ 4), (1, u "java/lang/Object"), (0, u "<init>"), (0, u "()V"), (1, .class_ 10), (1, u "java/lang/System"), (0, u "allowSecurityManager"), (0, u "I"), (16, u "cons"), (0, u "Ljava/io/Console;"), (77, .class_ 110), (1, u "java/lang/System$CallersHolder"), (43, u "initialErrStream"), (0, u "Ljava/io/PrintStream;"), (19, u "security"), (0, u "Ljava/lang/SecurityManager;"), (31, .class_ 209), (0, u "java/lang/System$1"), (7, u "props"), (0, u "Ljava/util/Properties;"), (2, u "lineSeparator"), (0, u "Ljava/lang/String;"), (96, .class_ 321), (1, u "java/lang/System$LoggerFinder"), (5, .class_ 328), (0, u "java/lang/System$Logger"), (67, u "err"), (2, u "out"), (91, u "notSupportedJnuEncoding"), (15, u "in"), (17, u "initialIn"), (0, u "Ljava/io/InputStream;"), (35, u "bootLayer"), (0, u "Ljava/lang/ModuleLayer;"), (99, .class_ 664), (0, u "java/lang/System$2"), (9, u "NEVER"), (2, u "MAYBE"), (49, u "arraycopy"), (0, u "(Ljava/lang/Object;ILjava/lang/Object;II)V"), (72, .class_ 802), (0, u "java/lang/System$Logger$Level")] 31

def k18m0 : Method := { name := "<init>", desc := "()V", sig := { parameters := [], returnType := none }, accessFlags := 2, code := none }
def k18m1 : Method := { name := "arraycopy", desc := "(Ljava/lang/Object;ILjava/lang/Object;II)V", sig := { parameters := [(.object "java/lang/Object"), .int, (.object "java/lang/Object"), .int, .int], returnType := none }, accessFlags := 265, code := none }
/-- java/lang/System -/
def k18 : Class := { plain "java/lang/System" (some 0) with
  accessFlags := 49
  interfaces := #[]
  cf := some (fileOf pool18 8 #[.nestMembers #[319, 327, 801, 108, 663, 208]] #[{ accessFlags := 2, nameIndex := 5, descriptorIndex := 6, attributes := #[] }, { accessFlags := 265, nameIndex := 727, descriptorIndex := 728, attributes := #[] }] 49 2 #[] #[{ accessFlags := 25, nameIndex := 507, descriptorIndex := 526, attributes := #[] }, { accessFlags := 25, nameIndex := 399, descriptorIndex := 155, attributes := #[] }, { accessFlags := 25, nameIndex := 396, descriptorIndex := 155, attributes := #[] }, { accessFlags := 10, nameIndex := 525, descriptorIndex := 526, attributes := #[] }, { accessFlags := 26, nameIndex := 674, descriptorIndex := 12, attributes := #[] }, { accessFlags := 26, nameIndex := 677, descriptorIndex := 12, attributes := #[] }, { accessFlags := 10, nameIndex := 11, descriptorIndex := 12, attributes := #[] }, { accessFlags := 74, nameIndex := 175, descriptorIndex := 176, attributes := #[] }, { accessFlags := 10, nameIndex := 491, descriptorIndex := 222, attributes := #[] }, { accessFlags := 74, nameIndex := 29, descriptorIndex := 30, attributes := #[] }, { accessFlags := 74, nameIndex := 154, descriptorIndex := 155, attributes := #[] }, { accessFlags := 10, nameIndex := 217, descriptorIndex := 218, attributes := #[] }, { accessFlags := 10, nameIndex := 221, descriptorIndex := 222, attributes := #[] }, { accessFlags := 8, nameIndex := 562, descriptorIndex := 563, attributes := #[] }])
  fields := #[{ name := "in", type := (.object "java/io/InputStream"), accessFlags := 25, slot := 0, constantValue := 0 }, { name := "out", type := (.object "java/io/PrintStream"), accessFlags := 25, slot := 1, constantValue := 0 }, { name := "err", type := (.object "java/io/PrintStream"), accessFlags := 25, slot := 2, constantValue := 0 }, { name := "initialIn", type := (.object "java/io/InputStream"), accessFlags := 10, slot := 3, constantValue := 0 }, { name := "NEVER", type := .int, accessFlags := 26, slot := 4, constantValue := 0 }, { name := "MAYBE", type := .int, accessFlags := 26, slot := 5, constantValue := 0 }, { name := "allowSecurityManager", type := .int, accessFlags := 10, slot := 6, constantValue := 0 }, { name := "security", type := (.object "java/lang/SecurityManager"), accessFlags := 74, slot := 7, constantValue := 0 }, { name := "notSupportedJnuEncoding", type := (.object "java/lang/String"), accessFlags := 10, slot := 8, constantValue := 0 }, { name := "cons", type := (.object "java/io/Console"), accessFlags := 74, slot := 9, constantValue := 0 }, { name := "initialErrStream", type := (.object "java/io/PrintStream"), accessFlags := 74, slot := 10, constantValue := 0 }, { name := "props", type := (.object "java/util/Properties"), accessFlags := 10, slot := 11, constantValue := 0 }, { name := "lineSeparator", type := (.object "java/lang/String"), accessFlags := 10, slot := 12, constantValue := 0 }, { name := "bootLayer", type := (.object "java/lang/ModuleLayer"), accessFlags := 8, slot := 13, constantValue := 0 }]
  methods := #[k18m0, k18m1]
  instanceTypes := #[]
  staticTypes := #[(.object "java/io/InputStream"), (.object "java/io/PrintStream"), (.object "java/io/PrintStream"), (.object "java/io/InputStream"), .int, .int, .int, (.object "java/lang/SecurityManager"), (.object "java/lang/String"), (.object "java/io/Console"), (.object "java/io/PrintStream"), (.object "java/util/Properties"), (.object "java/lang/String"), (.object "java/lang/ModuleLayer")]
  resolved := Array.replicate 834 none
  statics := none }

def pool19 : Array CpInfo := pool [(9, u "<init>"), (6, .class_ 18), (1, u "java/lang/Object"), (0, u "()V"), (1, .class_ 23), (1, u "jdk/internal/util/ArraysSupport"), (0, u "LOG2_ARRAY_LONG_INDEX_SCALE"), (0, u "I"), (2, u "U"), (0, u "Ljdk/internal/misc/Unsafe;"), (8, u "BIG_ENDIAN"), (0, u "Z"), (8, u "LOG2_BYTE_BIT_SIZE"), (4, u "LOG2_ARRAY_INT_INDEX_SCALE"), (54, u "JLA"), (0, u "Ljdk/internal/access/JavaLangAccess;"), (11, u "LOG2_ARRAY_BOOLEAN_INDEX_SCALE"), (9, u "LOG2_ARRAY_BYTE_INDEX_SCALE"), (5, u "LOG2_ARRAY_CHAR_INDEX_SCALE"), (5, u "LOG2_ARRAY_SHORT_INDEX_SCALE"), (18, u "LOG2_ARRAY_FLOAT_INDEX_SCALE"), (24, u "LOG2_ARRAY_DOUBLE_INDEX_SCALE"), (89, u "T_BOOLEAN"), (2, u "T_CHAR"), (1, u "T_FLOAT"), (1, u "T_DOUBLE"), (1, u "T_BYTE"), (1, u "T_SHORT"), (1, u "T_INT"), (1, u "T_LONG"), (1, u "SOFT_MAX_ARRAY_LENGTH")] 83

def k19m0 : Method := { name := "<init>", desc := "()V", sig := { parameters := [], returnType := none }, accessFlags := 2, code := none }
/-- jdk/internal/util/ArraysSupport -/
def k19 : Class := { plain "jdk/internal/util/ArraysSupport" (some 0) with
  accessFlags := 33
  interfaces := #[]
  cf := some (fileOf pool19 21 #[] #[{ accessFlags := 2, nameIndex := 9, descriptorIndex := 19, attributes := #[] }] 33 16 #[] #[{ accessFlags := 24, nameIndex := 28, descriptorIndex := 29, attributes := #[] }, { accessFlags := 26, nameIndex := 38, descriptorIndex := 39, attributes := #[] }, { accessFlags := 25, nameIndex := 121, descriptorIndex := 25, attributes := #[] }, { accessFlags := 25, nameIndex := 131, descriptorIndex := 25, attributes := #[] }, { accessFlags := 25, nameIndex := 137, descriptorIndex := 25, attributes := #[] }, { accessFlags := 25, nameIndex := 143, descriptorIndex := 25, attributes := #[] }, { accessFlags := 25, nameIndex := 53, descriptorIndex := 25, attributes := #[] }, { accessFlags := 25, nameIndex := 24, descriptorIndex := 25, attributes := #[] }, { accessFlags := 25, nameIndex := 162, descriptorIndex := 25, attributes := #[] }, { accessFlags := 25, nameIndex := 187, descriptorIndex := 25, attributes := #[] }, { accessFlags := 26, nameIndex := 48, descriptorIndex := 25, attributes := #[] }, { accessFlags := 25, nameIndex := 277, descriptorIndex := 25, attributes := #[] }, { accessFlags := 25, nameIndex := 280, descriptorIndex := 25, attributes := #[] }, { accessFlags := 25, nameIndex := 282, descriptorIndex := 25, attributes := #[] }, { accessFlags := 25, nameIndex := 284, descriptorIndex := 25, attributes := #[] }, { accessFlags := 25, nameIndex := 286, descriptorIndex := 25, attributes := #[] }, { accessFlags := 25, nameIndex := 288, descriptorIndex := 25, attributes := #[] }, { accessFlags := 25, nameIndex := 290, descriptorIndex := 25, attributes := #[] }, { accessFlags := 25, nameIndex := 292, descriptorIndex := 25, attributes := #[] }, { accessFlags := 26, nameIndex := 108, descriptorIndex := 109, attributes := #[] }, { accessFlags := 25, nameIndex := 294, descriptorIndex := 25, attributes := #[] }])
  fields := #[{ name := "U", type := (.object "jdk/internal/misc/Unsafe"), accessFlags := 24, slot := 0, constantValue := 0 }, { name := "BIG_ENDIAN", type := .boolean, accessFlags := 26, slot := 1, constantValue := 0 }, { name := "LOG2_ARRAY_BOOLEAN_INDEX_SCALE", type := .int, accessFlags := 25, slot := 2, constantValue := 0 }, { name := "LOG2_ARRAY_BYTE_INDEX_SCALE", type := .int, accessFlags := 25, slot := 3, constantValue := 0 }, { name := "LOG2_ARRAY_CHAR_INDEX_SCALE", type := .int, accessFlags := 25, slot := 4, constantValue := 0 }, { name := "LOG2_ARRAY_SHORT_INDEX_SCALE", type := .int, accessFlags := 25, slot := 5, constantValue := 0 }, { name := "LOG2_ARRAY_INT_INDEX_SCALE", type := .int, accessFlags := 25, slot := 6, constantValue := 0 }, { name := "LOG2_ARRAY_LONG_INDEX_SCALE", type := .int, accessFlags := 25, slot := 7, constantValue := 0 }, { name := "LOG2_ARRAY_FLOAT_INDEX_SCALE", type := .int, accessFlags := 25, slot := 8, constantValue := 0 }, { name := "LOG2_ARRAY_DOUBLE_INDEX_SCALE", type := .int, accessFlags := 25, slot := 9, constantValue := 0 }, { name := "LOG2_BYTE_BIT_SIZE", type := .int, accessFlags := 26, slot := 10, constantValue := 0 }, { name := "T_BOOLEAN", type := .int, accessFlags := 25, slot := 11, constantValue := 0 }, { name := "T_CHAR", type := .int, accessFlags := 25, slot := 12, constantValue := 0 }, { name := "T_FLOAT", type := .int, accessFlags := 25, slot := 13, constantValue := 0 }, { name := "T_DOUBLE", type := .int, accessFlags := 25, slot := 14, constantValue := 0 }, { name := "T_BYTE", type := .int, accessFlags := 25, slot := 15, constantValue := 0 }, { name := "T_SHORT", type := .int, accessFlags := 25, slot := 16, constantValue := 0 }, { name := "T_INT", type := .int, accessFlags := 25, slot := 17, constantValue := 0 }, { name := "T_LONG", type := .int, accessFlags := 25, slot := 18, constantValue := 0 }, { name := "JLA", type := (.object "jdk/internal/access/JavaLangAccess"), accessFlags := 26, slot := 19, constantValue := 0 }, { name := "SOFT_MAX_ARRAY_LENGTH", type := .int, accessFlags := 25, slot := 20, constantValue := 0 }]
  methods := #[k19m0]
  instanceTypes := #[]
  staticTypes := #[(.object "jdk/internal/misc/Unsafe"), .boolean, .int, .int, .int, .int, .int, .int, .int, .int, .int, .int, .int, .int, .int, .int, .int, .int, .int, (.object "jdk/internal/access/JavaLangAccess"), .int]
  resolved := Array.replicate 378 none
  statics := none }

/-- the primitive byte -/
def k20 : Class := { plain "byte" none with kind := .primitive 'B', accessFlags := 0x411 }
/-- [B -/
def k21 : Class := { plain "[B" (some 0) with kind := .array 20 .byte, interfaces := #[13, 2], accessFlags := 1041 }

/-- the primitive char -/
def k22 : Class := { plain "char" none with kind := .primitive 'C', accessFlags := 0x411 }
/-- [C -/
def k23 : Class := { plain "[C" (some 0) with kind := .array 22 .char, interfaces := #[13, 2], accessFlags := 1041 }

/-- the primitive int -/
def k24 : Class := { plain "int" none with kind := .primitive 'I', accessFlags := 0x411 }
/-- [I -/
def k25 : Class := { plain "[I" (some 0) with kind := .array 24 .int, interfaces := #[13, 2], accessFlags := 1041 }

def heap : Heap := #[{ cls := 7, slots := #[.long 0, .int 1, .null, .int 0, .null, .int 0, .int 0], vm := .statics 7 },
  { cls := 16, slots := #[.null, .null, .null], vm := .statics 16 }]
def classes : Array Class := #[k0, k1, k2, k3, k4, k5, k6, k7, k8, k9, k10, k11, k12, k13, k14, k15, k16, k17, k18, k19, k20, k21, k22, k23, k24, k25]
def interned : List (Array UInt16 × Addr) := []
def slotsUsed : Nat := 10
def theMethod : MethodId := ⟨1, 7⟩
def args0 : Array Value := #[.int 5, .int 1, .int 2, .long 7, .int 2]
def aboutOver (below : List Frame) : State where
  vm := { classes := classes, interned := interned.toArray }
  heap := heap
  slotsUsed := slotsUsed
  threads := #[{ frames := .invoking theMethod args0 :: below }]
def below0 : List Frame := [.native { method := ⟨0, 0⟩, args := #[] }]
def about1 : State := aboutOver below0
def p0 : Program := .bare "" "" ""
def e0 : Env := launch0.env 0 0 0
theorem w_frames : about1.frames = Frame.invoking theMethod args0 :: below0 := rfl
set_option maxRecDepth 65536 in
theorem w_args : argsFit about1.vm theMethod args0 = true := by decide +kernel
set_option maxRecDepth 65536 in
theorem w_heap : heapFits about1 = true := by decide +kernel
set_option maxRecDepth 65536 in
theorem w_runnable : about1.curStatus? = some .runnable := by decide +kernel
set_option maxRecDepth 65536 in
theorem w_alone : about1.alone = true := by decide +kernel
set_option maxRecDepth 65536 in
theorem w_named : about1.methodNamed? x = some theMethod := by decide +kernel
set_option maxRecDepth 65536 in
theorem w_hears : about1.hears theMethod below0 = true := by decide +kernel
set_option maxRecDepth 65536 in
theorem w_ripe : about1.ripe theMethod args0 below0 = true := by decide +kernel
theorem w_running : about1.status = .running := rfl
set_option maxRecDepth 65536 in
theorem w_room : about1.hasRoom e0.platform room_1 = true :=
  launch0.hasRoom_least _ room_1 (by decide +kernel) (by decide +kernel) (by decide +kernel) (by decide +kernel) (by decide +kernel) (by decide +kernel)
theorem allAtoms_all (ts : List Jvm.Cond) (a : Array Jvm.Value) (st : Jvm.State) : (allAtoms ts).before a st = ts.all (fun c => c.before a st) := by
  induction ts with
  | nil => rfl
  | cons c t ih =>
    show (Jvm.Cond.and c (allAtoms t)).before a st = _
    rw [Jvm.Cond.before_and, ih, List.all_cons]
def words1 : List Jvm.Cond := Jvm.Cond.code x code maxLocals ret :: tables_1
/-- a 'code' word, met by the world's own term for the bytes: nothing is compared byte by byte -/
theorem code_word {y : MethodName} {bytes : ByteArray} {mx : Nat} {rt : Option FieldType} {a : Array Value} {s : State} {m : MethodId} {meth : Method} {c : Code} (h1 : s.methodNamed? y = some m) (h2 : s.vm.method? m = some meth) (h3 : meth.code = some c) (h4 : c.code = bytes)
    (h5 : (c.maxLocals == mx && c.exceptionTable.isEmpty && decide (c.maxStack ≤ mostOperands) && decide (meth.sig.returnType = rt) && !meth.locks && decide (parseMethodDescriptor y.desc = some meth.sig)) = true) : (Jvm.Cond.code y bytes mx rt).before a s = true := by
  simp only [Bool.and_eq_true, beq_iff_eq, Bool.not_eq_true', decide_eq_true_eq] at h5
  obtain ⟨⟨⟨⟨⟨g1, g2⟩, g3⟩, g4⟩, g5⟩, g6⟩ := h5
  simp [Cond.before, Cond.holds, Cond.value, h1, h2, h3, h4, g1, g2, g3, g4, g5, g6]
def isCode : Jvm.Cond → Bool
  | .code _ _ _ _ => true
  | _ => false
theorem all_split {L : List Jvm.Cond} {P : Jvm.Cond → Bool} (h1 : L.all (fun c => isCode c || P c) = true) (h2 : ∀ c ∈ L.filter isCode, P c = true) : L.all P = true := by
  refine List.all_eq_true.mpr fun c hc => ?_
  have h := List.all_eq_true.mp h1 c hc
  rcases Bool.eq_false_or_eq_true (isCode c) with hi | hi
  · exact h2 c (List.mem_filter.mpr ⟨hc, hi⟩)
  · simpa [hi] using h
set_option maxRecDepth 65536 in
theorem w_c0 : (Jvm.Cond.code x code maxLocals ret).before args0 about1 = true := code_word (m := ⟨1, 7⟩) (meth := k1m7) (c := k1c7) (by decide +kernel) rfl rfl rfl (by decide +kernel)
set_option maxRecDepth 65536 in
theorem w_c1 : (Jvm.Cond.code ({ cls := "com/example/nisaba/nisaba/TsvFile", name := "unescape", desc := "(Ljava/lang/String;Ljava/lang/String;)Ljava/lang/String;" } : Jvm.MethodName) prog_22_method_4_code (6 : Nat) (Option.some (Jvm.ClassFile.FieldType.object "java/lang/String"))).before args0 about1 = true := code_word (m := ⟨8, 1⟩) (meth := k8m1) (c := k8c1) (by decide +kernel) rfl rfl rfl (by decide +kernel)
set_option maxRecDepth 65536 in
theorem w_c2 : (Jvm.Cond.code ({ cls := "java/lang/String", name := "length", desc := "()I" } : Jvm.MethodName) jdk_42_method_54_code (1 : Nat) (Option.some Jvm.ClassFile.FieldType.int)).before args0 about1 = true := code_word (m := ⟨7, 3⟩) (meth := k7m3) (c := k7c3) (by decide +kernel) rfl rfl rfl (by decide +kernel)
set_option maxRecDepth 65536 in
theorem w_c3 : (Jvm.Cond.code ({ cls := "java/lang/String", name := "coder", desc := "()B" } : Jvm.MethodName) jdk_42_method_152_code (1 : Nat) (Option.some Jvm.ClassFile.FieldType.byte)).before args0 about1 = true := code_word (m := ⟨7, 10⟩) (meth := k7m10) (c := k7c10) (by decide +kernel) rfl rfl rfl (by decide +kernel)
set_option maxRecDepth 65536 in
theorem w_c4 : (Jvm.Cond.code ({ cls := "java/lang/StringBuilder", name := "<init>", desc := "(I)V" } : Jvm.MethodName) jdk_67_method_2_code (2 : Nat) (Option.none : Option Jvm.ClassFile.FieldType)).before args0 about1 = true := code_word (m := ⟨11, 1⟩) (meth := k11m1) (c := k11c1) (by decide +kernel) rfl rfl rfl (by decide +kernel)
set_option maxRecDepth 65536 in
theorem w_c5 : (Jvm.Cond.code ({ cls := "java/lang/AbstractStringBuilder", name := "<init>", desc := "(I)V" } : Jvm.MethodName) jdk_68_method_2_code (2 : Nat) (Option.none : Option Jvm.ClassFile.FieldType)).before args0 about1 = true := code_word (m := ⟨10, 1⟩) (meth := k10m1) (c := k10c1) (by decide +kernel) rfl rfl rfl (by decide +kernel)
set_option maxRecDepth 65536 in
theorem w_c6 : (Jvm.Cond.code ({ cls := "java/lang/Object", name := "<init>", desc := "()V" } : Jvm.MethodName) object_method_1_code (1 : Nat) (Option.none : Option Jvm.ClassFile.FieldType)).before args0 about1 = true := code_word (m := ⟨0, 0⟩) (meth := k0m0) (c := k0c0) (by decide +kernel) rfl rfl rfl (by decide +kernel)
set_option maxRecDepth 65536 in
theorem w_c7 : (Jvm.Cond.code ({ cls := "java/lang/StringBuilder", name := "toString", desc := "()Ljava/lang/String;" } : Jvm.MethodName) jdk_67_method_42_code (1 : Nat) (Option.some (Jvm.ClassFile.FieldType.object "java/lang/String"))).before args0 about1 = true := code_word (m := ⟨11, 3⟩) (meth := k11m3) (c := k11c3) (by decide +kernel) rfl rfl rfl (by decide +kernel)
set_option maxRecDepth 65536 in
theorem w_c8 : (Jvm.Cond.code ({ cls := "java/lang/String", name := "<init>", desc := "(Ljava/lang/StringBuilder;)V" } : Jvm.MethodName) jdk_42_method_53_code (2 : Nat) (Option.none : Option Jvm.ClassFile.FieldType)).before args0 about1 = true := code_word (m := ⟨7, 2⟩) (meth := k7m2) (c := k7c2) (by decide +kernel) rfl rfl rfl (by decide +kernel)
set_option maxRecDepth 65536 in
theorem w_c9 : (Jvm.Cond.code ({ cls := "java/lang/String", name := "<init>", desc := "(Ljava/lang/AbstractStringBuilder;Ljava/lang/Void;)V" } : Jvm.MethodName) jdk_42_method_150_code (5 : Nat) (Option.none : Option Jvm.ClassFile.FieldType)).before args0 about1 = true := code_word (m := ⟨7, 8⟩) (meth := k7m8) (c := k7c8) (by decide +kernel) rfl rfl rfl (by decide +kernel)
set_option maxRecDepth 65536 in
theorem w_c10 : (Jvm.Cond.code ({ cls := "java/lang/AbstractStringBuilder", name := "getValue", desc := "()[B" } : Jvm.MethodName) jdk_68_method_64_code (1 : Nat) (Option.some (Jvm.ClassFile.FieldType.array Jvm.ClassFile.FieldType.byte))).before args0 about1 = true := code_word (m := ⟨10, 5⟩) (meth := k10m5) (c := k10c5) (by decide +kernel) rfl rfl rfl (by decide +kernel)
set_option maxRecDepth 65536 in
theorem w_c11 : (Jvm.Cond.code ({ cls := "java/lang/StringBuilder", name := "length", desc := "()I" } : Jvm.MethodName) jdk_67_method_93_code (1 : Nat) (Option.some Jvm.ClassFile.FieldType.int)).before args0 about1 = true := code_word (m := ⟨11, 4⟩) (meth := k11m4) (c := k11c4) (by decide +kernel) rfl rfl rfl (by decide +kernel)
set_option maxRecDepth 65536 in
theorem w_c12 : (Jvm.Cond.code ({ cls := "java/lang/AbstractStringBuilder", name := "length", desc := "()I" } : Jvm.MethodName) jdk_68_method_6_code (1 : Nat) (Option.some Jvm.ClassFile.FieldType.int)).before args0 about1 = true := code_word (m := ⟨10, 2⟩) (meth := k10m2) (c := k10c2) (by decide +kernel) rfl rfl rfl (by decide +kernel)
set_option maxRecDepth 65536 in
theorem w_c13 : (Jvm.Cond.code ({ cls := "java/lang/AbstractStringBuilder", name := "isLatin1", desc := "()Z" } : Jvm.MethodName) jdk_68_method_68_code (1 : Nat) (Option.some Jvm.ClassFile.FieldType.boolean)).before args0 about1 = true := code_word (m := ⟨10, 6⟩) (meth := k10m6) (c := k10c6) (by decide +kernel) rfl rfl rfl (by decide +kernel)
set_option maxRecDepth 65536 in
theorem w_c14 : (Jvm.Cond.code ({ cls := "java/util/Arrays", name := "copyOfRange", desc := "([BII)[B" } : Jvm.MethodName) jdk_65_method_132_code (3 : Nat) (Option.some (Jvm.ClassFile.FieldType.array Jvm.ClassFile.FieldType.byte))).before args0 about1 = true := code_word (m := ⟨12, 2⟩) (meth := k12m2) (c := k12c2) (by decide +kernel) rfl rfl rfl (by decide +kernel)
set_option maxRecDepth 65536 in
theorem w_c15 : (Jvm.Cond.code ({ cls := "java/lang/String", name := "equals", desc := "(Ljava/lang/Object;)Z" } : Jvm.MethodName) jdk_42_method_66_code (3 : Nat) (Option.some Jvm.ClassFile.FieldType.boolean)).before args0 about1 = true := code_word (m := ⟨7, 5⟩) (meth := k7m5) (c := k7c5) (by decide +kernel) rfl rfl rfl (by decide +kernel)
set_option maxRecDepth 65536 in
theorem w_c16 : (Jvm.Cond.code ({ cls := "java/lang/StringLatin1", name := "equals", desc := "([B[B)Z" } : Jvm.MethodName) jdk_43_method_13_code (3 : Nat) (Option.some Jvm.ClassFile.FieldType.boolean)).before args0 about1 = true := code_word (m := ⟨14, 3⟩) (meth := k14m3) (c := k14c3) (by decide +kernel) rfl rfl rfl (by decide +kernel)
set_option maxRecDepth 65536 in
theorem w_c17 : (Jvm.Cond.code ({ cls := "com/example/nisaba/nisaba/TsvFileUnescapePinLaw", name := "put", desc := "([CII)I" } : Jvm.MethodName) method_6_code (3 : Nat) (Option.some Jvm.ClassFile.FieldType.int)).before args0 about1 = true := code_word (m := ⟨1, 5⟩) (meth := k1m5) (c := k1c5) (by decide +kernel) rfl rfl rfl (by decide +kernel)
set_option maxRecDepth 65536 in
theorem w_c18 : (Jvm.Cond.code ({ cls := "com/example/nisaba/nisaba/TsvFileUnescapePinLaw", name := "isEscape", desc := "(I)Z" } : Jvm.MethodName) method_3_code (1 : Nat) (Option.some Jvm.ClassFile.FieldType.boolean)).before args0 about1 = true := code_word (m := ⟨1, 2⟩) (meth := k1m2) (c := k1c2) (by decide +kernel) rfl rfl rfl (by decide +kernel)
set_option maxRecDepth 65536 in
theorem w_c19 : (Jvm.Cond.code ({ cls := "com/example/nisaba/nisaba/TsvFileUnescapePinLaw", name := "letter", desc := "(I)C" } : Jvm.MethodName) method_4_code (1 : Nat) (Option.some Jvm.ClassFile.FieldType.char)).before args0 about1 = true := code_word (m := ⟨1, 3⟩) (meth := k1m3) (c := k1c3) (by decide +kernel) rfl rfl rfl (by decide +kernel)
set_option maxRecDepth 65536 in
theorem w_c20 : (Jvm.Cond.code ({ cls := "com/example/nisaba/nisaba/TsvFileUnescapePinLaw", name := "plain", desc := "(I)C" } : Jvm.MethodName) method_2_code (2 : Nat) (Option.some Jvm.ClassFile.FieldType.char)).before args0 about1 = true := code_word (m := ⟨1, 1⟩) (meth := k1m1) (c := k1c1) (by decide +kernel) rfl rfl rfl (by decide +kernel)
set_option maxRecDepth 65536 in
theorem w_c21 : (Jvm.Cond.code ({ cls := "java/lang/String", name := "<init>", desc := "([C)V" } : Jvm.MethodName) jdk_42_method_3_code (2 : Nat) (Option.none : Option Jvm.ClassFile.FieldType)).before args0 about1 = true := code_word (m := ⟨7, 1⟩) (meth := k7m1) (c := k7c1) (by decide +kernel) rfl rfl rfl (by decide +kernel)
set_option maxRecDepth 65536 in
theorem w_c22 : (Jvm.Cond.code ({ cls := "java/lang/String", name := "<init>", desc := "([CIILjava/lang/Void;)V" } : Jvm.MethodName) jdk_42_method_149_code (6 : Nat) (Option.none : Option Jvm.ClassFile.FieldType)).before args0 about1 = true := code_word (m := ⟨7, 7⟩) (meth := k7m7) (c := k7c7) (by decide +kernel) rfl rfl rfl (by decide +kernel)
set_option maxRecDepth 65536 in
theorem w_c23 : (Jvm.Cond.code ({ cls := "java/lang/StringUTF16", name := "compress", desc := "([CII)[B" } : Jvm.MethodName) jdk_52_method_16_code (6 : Nat) (Option.some (Jvm.ClassFile.FieldType.array Jvm.ClassFile.FieldType.byte))).before args0 about1 = true := code_word (m := ⟨15, 2⟩) (meth := k15m2) (c := k15c2) (by decide +kernel) rfl rfl rfl (by decide +kernel)
set_option maxRecDepth 65536 in
theorem w_c24 : (Jvm.Cond.code ({ cls := "java/lang/StringUTF16", name := "compress", desc := "([CI[BII)I" } : Jvm.MethodName) jdk_52_method_21_code (7 : Nat) (Option.some Jvm.ClassFile.FieldType.int)).before args0 about1 = true := code_word (m := ⟨15, 3⟩) (meth := k15m3) (c := k15c3) (by decide +kernel) rfl rfl rfl (by decide +kernel)
set_option maxRecDepth 65536 in
theorem w_c25 : (Jvm.Cond.code ({ cls := "java/lang/StringUTF16", name := "coderFromArrayLen", desc := "([BI)B" } : Jvm.MethodName) jdk_52_method_15_code (2 : Nat) (Option.some Jvm.ClassFile.FieldType.byte)).before args0 about1 = true := code_word (m := ⟨15, 1⟩) (meth := k15m1) (c := k15c1) (by decide +kernel) rfl rfl rfl (by decide +kernel)
set_option maxRecDepth 65536 in
theorem w_c26 : (Jvm.Cond.code ({ cls := "java/lang/String", name := "charAt", desc := "(I)C" } : Jvm.MethodName) jdk_42_method_56_code (2 : Nat) (Option.some Jvm.ClassFile.FieldType.char)).before args0 about1 = true := code_word (m := ⟨7, 4⟩) (meth := k7m4) (c := k7c4) (by decide +kernel) rfl rfl rfl (by decide +kernel)
set_option maxRecDepth 65536 in
theorem w_c27 : (Jvm.Cond.code ({ cls := "java/lang/String", name := "isLatin1", desc := "()Z" } : Jvm.MethodName) jdk_42_method_154_code (1 : Nat) (Option.some Jvm.ClassFile.FieldType.boolean)).before args0 about1 = true := code_word (m := ⟨7, 11⟩) (meth := k7m11) (c := k7c11) (by decide +kernel) rfl rfl rfl (by decide +kernel)
set_option maxRecDepth 65536 in
theorem w_c28 : (Jvm.Cond.code ({ cls := "java/lang/StringLatin1", name := "charAt", desc := "([BI)C" } : Jvm.MethodName) jdk_43_method_2_code (2 : Nat) (Option.some Jvm.ClassFile.FieldType.char)).before args0 about1 = true := code_word (m := ⟨14, 1⟩) (meth := k14m1) (c := k14c1) (by decide +kernel) rfl rfl rfl (by decide +kernel)
set_option maxRecDepth 65536 in
theorem w_c29 : (Jvm.Cond.code ({ cls := "java/lang/String", name := "checkIndex", desc := "(II)V" } : Jvm.MethodName) jdk_42_method_155_code (2 : Nat) (Option.none : Option Jvm.ClassFile.FieldType)).before args0 about1 = true := code_word (m := ⟨7, 12⟩) (meth := k7m12) (c := k7c12) (by decide +kernel) rfl rfl rfl (by decide +kernel)
set_option maxRecDepth 65536 in
theorem w_c30 : (Jvm.Cond.code ({ cls := "jdk/internal/util/Preconditions", name := "checkIndex", desc := "(IILjava/util/function/BiFunction;)I" } : Jvm.MethodName) jdk_41_method_11_code (3 : Nat) (Option.some Jvm.ClassFile.FieldType.int)).before args0 about1 = true := code_word (m := ⟨16, 1⟩) (meth := k16m1) (c := k16c1) (by decide +kernel) rfl rfl rfl (by decide +kernel)
set_option maxRecDepth 65536 in
theorem w_c31 : (Jvm.Cond.code ({ cls := "java/lang/StringBuilder", name := "append", desc := "(C)Ljava/lang/StringBuilder;" } : Jvm.MethodName) jdk_67_method_14_code (2 : Nat) (Option.some (Jvm.ClassFile.FieldType.object "java/lang/StringBuilder"))).before args0 about1 = true := code_word (m := ⟨11, 2⟩) (meth := k11m2) (c := k11c2) (by decide +kernel) rfl rfl rfl (by decide +kernel)
set_option maxRecDepth 65536 in
theorem w_c32 : (Jvm.Cond.code ({ cls := "java/lang/AbstractStringBuilder", name := "append", desc := "(C)Ljava/lang/AbstractStringBuilder;" } : Jvm.MethodName) jdk_68_method_31_code (2 : Nat) (Option.some (Jvm.ClassFile.FieldType.object "java/lang/AbstractStringBuilder"))).before args0 about1 = true := code_word (m := ⟨10, 4⟩) (meth := k10m4) (c := k10c4) (by decide +kernel) rfl rfl rfl (by decide +kernel)
set_option maxRecDepth 65536 in
theorem w_c33 : (Jvm.Cond.code ({ cls := "java/lang/AbstractStringBuilder", name := "ensureCapacityInternal", desc := "(I)V" } : Jvm.MethodName) jdk_68_method_9_code (3 : Nat) (Option.none : Option Jvm.ClassFile.FieldType)).before args0 about1 = true := code_word (m := ⟨10, 3⟩) (meth := k10m3) (c := k10c3) (by decide +kernel) rfl rfl rfl (by decide +kernel)
set_option maxRecDepth 65536 in
theorem w_c34 : (Jvm.Cond.code ({ cls := "java/lang/StringLatin1", name := "canEncode", desc := "(C)Z" } : Jvm.MethodName) jdk_43_method_3_code (1 : Nat) (Option.some Jvm.ClassFile.FieldType.boolean)).before args0 about1 = true := code_word (m := ⟨14, 2⟩) (meth := k14m2) (c := k14c2) (by decide +kernel) rfl rfl rfl (by decide +kernel)
set_option maxRecDepth 65536 in
theorem w_c35 : (Jvm.Cond.code ({ cls := "java/util/Arrays", name := "copyOfRangeByte", desc := "([BII)[B" } : Jvm.MethodName) jdk_65_method_133_code (5 : Nat) (Option.some (Jvm.ClassFile.FieldType.array Jvm.ClassFile.FieldType.byte))).before args0 about1 = true := code_word (m := ⟨12, 3⟩) (meth := k12m3) (c := k12c3) (by decide +kernel) rfl rfl rfl (by decide +kernel)
set_option maxRecDepth 65536 in
theorem w_c36 : (Jvm.Cond.code ({ cls := "java/util/Arrays", name := "checkLength", desc := "(II)V" } : Jvm.MethodName) jdk_65_method_131_code (2 : Nat) (Option.none : Option Jvm.ClassFile.FieldType)).before args0 about1 = true := code_word (m := ⟨12, 1⟩) (meth := k12m1) (c := k12c1) (by decide +kernel) rfl rfl rfl (by decide +kernel)
set_option maxRecDepth 65536 in
theorem w_c37 : (Jvm.Cond.code ({ cls := "java/lang/Math", name := "min", desc := "(II)I" } : Jvm.MethodName) jdk_29_method_69_code (2 : Nat) (Option.some Jvm.ClassFile.FieldType.int)).before args0 about1 = true := code_word (m := ⟨17, 1⟩) (meth := k17m1) (c := k17c1) (by decide +kernel) rfl rfl rfl (by decide +kernel)
set_option maxRecDepth 65536 in
theorem w_c38 : (Jvm.Cond.code ({ cls := "com/example/nisaba/nisaba/TsvFileUnescapePinLaw", name := "out", desc := "(I)C" } : Jvm.MethodName) method_7_code (1 : Nat) (Option.some Jvm.ClassFile.FieldType.char)).before args0 about1 = true := code_word (m := ⟨1, 6⟩) (meth := k1m6) (c := k1c6) (by decide +kernel) rfl rfl rfl (by decide +kernel)
set_option maxRecDepth 65536 in
theorem w_c39 : (Jvm.Cond.code ({ cls := "com/example/nisaba/nisaba/TsvFileUnescapePinLaw", name := "meaning", desc := "(I)C" } : Jvm.MethodName) method_5_code (1 : Nat) (Option.some Jvm.ClassFile.FieldType.char)).before args0 about1 = true := code_word (m := ⟨1, 4⟩) (meth := k1m4) (c := k1c4) (by decide +kernel) rfl rfl rfl (by decide +kernel)
set_option maxRecDepth 65536 in
theorem w_c40 : (Jvm.Cond.code ({ cls := "java/lang/String", name := "valueOf", desc := "(C)Ljava/lang/String;" } : Jvm.MethodName) jdk_42_method_139_code (1 : Nat) (Option.some (Jvm.ClassFile.FieldType.object "java/lang/String"))).before args0 about1 = true := code_word (m := ⟨7, 6⟩) (meth := k7m6) (c := k7c6) (by decide +kernel) rfl rfl rfl (by decide +kernel)
set_option maxRecDepth 65536 in
theorem w_c41 : (Jvm.Cond.code ({ cls := "java/lang/StringLatin1", name := "toBytes", desc := "(C)[B" } : Jvm.MethodName) jdk_43_method_46_code (1 : Nat) (Option.some (Jvm.ClassFile.FieldType.array Jvm.ClassFile.FieldType.byte))).before args0 about1 = true := code_word (m := ⟨14, 4⟩) (meth := k14m4) (c := k14c4) (by decide +kernel) rfl rfl rfl (by decide +kernel)
set_option maxRecDepth 65536 in
theorem w_c42 : (Jvm.Cond.code ({ cls := "java/lang/String", name := "<init>", desc := "([BB)V" } : Jvm.MethodName) jdk_42_method_151_code (3 : Nat) (Option.none : Option Jvm.ClassFile.FieldType)).before args0 about1 = true := code_word (m := ⟨7, 9⟩) (meth := k7m9) (c := k7c9) (by decide +kernel) rfl rfl rfl (by decide +kernel)
def codes1 : List Jvm.Cond := [Jvm.Cond.code x code maxLocals ret, Jvm.Cond.code ({ cls := "com/example/nisaba/nisaba/TsvFile", name := "unescape", desc := "(Ljava/lang/String;Ljava/lang/String;)Ljava/lang/String;" } : Jvm.MethodName) prog_22_method_4_code (6 : Nat) (Option.some (Jvm.ClassFile.FieldType.object "java/lang/String")), Jvm.Cond.code ({ cls := "java/lang/String", name := "length", desc := "()I" } : Jvm.MethodName) jdk_42_method_54_code (1 : Nat) (Option.some Jvm.ClassFile.FieldType.int), Jvm.Cond.code ({ cls := "java/lang/String", name := "coder", desc := "()B" } : Jvm.MethodName) jdk_42_method_152_code (1 : Nat) (Option.some Jvm.ClassFile.FieldType.byte), Jvm.Cond.code ({ cls := "java/lang/StringBuilder", name := "<init>", desc := "(I)V" } : Jvm.MethodName) jdk_67_method_2_code (2 : Nat) (Option.none : Option Jvm.ClassFile.FieldType), Jvm.Cond.code ({ cls := "java/lang/AbstractStringBuilder", name := "<init>", desc := "(I)V" } : Jvm.MethodName) jdk_68_method_2_code (2 : Nat) (Option.none : Option Jvm.ClassFile.FieldType), Jvm.Cond.code ({ cls := "java/lang/Object", name := "<init>", desc := "()V" } : Jvm.MethodName) object_method_1_code (1 : Nat) (Option.none : Option Jvm.ClassFile.FieldType), Jvm.Cond.code ({ cls := "java/lang/StringBuilder", name := "toString", desc := "()Ljava/lang/String;" } : Jvm.MethodName) jdk_67_method_42_code (1 : Nat) (Option.some (Jvm.ClassFile.FieldType.object "java/lang/String")), Jvm.Cond.code ({ cls := "java/lang/String", name := "<init>", desc := "(Ljava/lang/StringBuilder;)V" } : Jvm.MethodName) jdk_42_method_53_code (2 : Nat) (Option.none : Option Jvm.ClassFile.FieldType), Jvm.Cond.code ({ cls := "java/lang/String", name := "<init>", desc := "(Ljava/lang/AbstractStringBuilder;Ljava/lang/Void;)V" } : Jvm.MethodName) jdk_42_method_150_code (5 : Nat) (Option.none : Option Jvm.ClassFile.FieldType), Jvm.Cond.code ({ cls := "java/lang/AbstractStringBuilder", name := "getValue", desc := "()[B" } : Jvm.MethodName) jdk_68_method_64_code (1 : Nat) (Option.some (Jvm.ClassFile.FieldType.array Jvm.ClassFile.FieldType.byte)), Jvm.Cond.code ({ cls := "java/lang/StringBuilder", name := "length", desc := "()I" } : Jvm.MethodName) jdk_67_method_93_code (1 : Nat) (Option.some Jvm.ClassFile.FieldType.int), Jvm.Cond.code ({ cls := "java/lang/AbstractStringBuilder", name := "length", desc := "()I" } : Jvm.MethodName) jdk_68_method_6_code (1 : Nat) (Option.some Jvm.ClassFile.FieldType.int), Jvm.Cond.code ({ cls := "java/lang/AbstractStringBuilder", name := "isLatin1", desc := "()Z" } : Jvm.MethodName) jdk_68_method_68_code (1 : Nat) (Option.some Jvm.ClassFile.FieldType.boolean), Jvm.Cond.code ({ cls := "java/util/Arrays", name := "copyOfRange", desc := "([BII)[B" } : Jvm.MethodName) jdk_65_method_132_code (3 : Nat) (Option.some (Jvm.ClassFile.FieldType.array Jvm.ClassFile.FieldType.byte)), Jvm.Cond.code ({ cls := "java/lang/String", name := "equals", desc := "(Ljava/lang/Object;)Z" } : Jvm.MethodName) jdk_42_method_66_code (3 : Nat) (Option.some Jvm.ClassFile.FieldType.boolean), Jvm.Cond.code ({ cls := "java/lang/StringLatin1", name := "equals", desc := "([B[B)Z" } : Jvm.MethodName) jdk_43_method_13_code (3 : Nat) (Option.some Jvm.ClassFile.FieldType.boolean), Jvm.Cond.code ({ cls := "com/example/nisaba/nisaba/TsvFileUnescapePinLaw", name := "put", desc := "([CII)I" } : Jvm.MethodName) method_6_code (3 : Nat) (Option.some Jvm.ClassFile.FieldType.int), Jvm.Cond.code ({ cls := "com/example/nisaba/nisaba/TsvFileUnescapePinLaw", name := "isEscape", desc := "(I)Z" } : Jvm.MethodName) method_3_code (1 : Nat) (Option.some Jvm.ClassFile.FieldType.boolean), Jvm.Cond.code ({ cls := "com/example/nisaba/nisaba/TsvFileUnescapePinLaw", name := "letter", desc := "(I)C" } : Jvm.MethodName) method_4_code (1 : Nat) (Option.some Jvm.ClassFile.FieldType.char), Jvm.Cond.code ({ cls := "com/example/nisaba/nisaba/TsvFileUnescapePinLaw", name := "plain", desc := "(I)C" } : Jvm.MethodName) method_2_code (2 : Nat) (Option.some Jvm.ClassFile.FieldType.char), Jvm.Cond.code ({ cls := "java/lang/String", name := "<init>", desc := "([C)V" } : Jvm.MethodName) jdk_42_method_3_code (2 : Nat) (Option.none : Option Jvm.ClassFile.FieldType), Jvm.Cond.code ({ cls := "java/lang/String", name := "<init>", desc := "([CIILjava/lang/Void;)V" } : Jvm.MethodName) jdk_42_method_149_code (6 : Nat) (Option.none : Option Jvm.ClassFile.FieldType), Jvm.Cond.code ({ cls := "java/lang/StringUTF16", name := "compress", desc := "([CII)[B" } : Jvm.MethodName) jdk_52_method_16_code (6 : Nat) (Option.some (Jvm.ClassFile.FieldType.array Jvm.ClassFile.FieldType.byte)), Jvm.Cond.code ({ cls := "java/lang/StringUTF16", name := "compress", desc := "([CI[BII)I" } : Jvm.MethodName) jdk_52_method_21_code (7 : Nat) (Option.some Jvm.ClassFile.FieldType.int), Jvm.Cond.code ({ cls := "java/lang/StringUTF16", name := "coderFromArrayLen", desc := "([BI)B" } : Jvm.MethodName) jdk_52_method_15_code (2 : Nat) (Option.some Jvm.ClassFile.FieldType.byte), Jvm.Cond.code ({ cls := "java/lang/String", name := "charAt", desc := "(I)C" } : Jvm.MethodName) jdk_42_method_56_code (2 : Nat) (Option.some Jvm.ClassFile.FieldType.char), Jvm.Cond.code ({ cls := "java/lang/String", name := "isLatin1", desc := "()Z" } : Jvm.MethodName) jdk_42_method_154_code (1 : Nat) (Option.some Jvm.ClassFile.FieldType.boolean), Jvm.Cond.code ({ cls := "java/lang/StringLatin1", name := "charAt", desc := "([BI)C" } : Jvm.MethodName) jdk_43_method_2_code (2 : Nat) (Option.some Jvm.ClassFile.FieldType.char), Jvm.Cond.code ({ cls := "java/lang/String", name := "checkIndex", desc := "(II)V" } : Jvm.MethodName) jdk_42_method_155_code (2 : Nat) (Option.none : Option Jvm.ClassFile.FieldType), Jvm.Cond.code ({ cls := "jdk/internal/util/Preconditions", name := "checkIndex", desc := "(IILjava/util/function/BiFunction;)I" } : Jvm.MethodName) jdk_41_method_11_code (3 : Nat) (Option.some Jvm.ClassFile.FieldType.int), Jvm.Cond.code ({ cls := "java/lang/StringBuilder", name := "append", desc := "(C)Ljava/lang/StringBuilder;" } : Jvm.MethodName) jdk_67_method_14_code (2 : Nat) (Option.some (Jvm.ClassFile.FieldType.object "java/lang/StringBuilder")), Jvm.Cond.code ({ cls := "java/lang/AbstractStringBuilder", name := "append", desc := "(C)Ljava/lang/AbstractStringBuilder;" } : Jvm.MethodName) jdk_68_method_31_code (2 : Nat) (Option.some (Jvm.ClassFile.FieldType.object "java/lang/AbstractStringBuilder")), Jvm.Cond.code ({ cls := "java/lang/AbstractStringBuilder", name := "ensureCapacityInternal", desc := "(I)V" } : Jvm.MethodName) jdk_68_method_9_code (3 : Nat) (Option.none : Option Jvm.ClassFile.FieldType), Jvm.Cond.code ({ cls := "java/lang/StringLatin1", name := "canEncode", desc := "(C)Z" } : Jvm.MethodName) jdk_43_method_3_code (1 : Nat) (Option.some Jvm.ClassFile.FieldType.boolean), Jvm.Cond.code ({ cls := "java/util/Arrays", name := "copyOfRangeByte", desc := "([BII)[B" } : Jvm.MethodName) jdk_65_method_133_code (5 : Nat) (Option.some (Jvm.ClassFile.FieldType.array Jvm.ClassFile.FieldType.byte)), Jvm.Cond.code ({ cls := "java/util/Arrays", name := "checkLength", desc := "(II)V" } : Jvm.MethodName) jdk_65_method_131_code (2 : Nat) (Option.none : Option Jvm.ClassFile.FieldType), Jvm.Cond.code ({ cls := "java/lang/Math", name := "min", desc := "(II)I" } : Jvm.MethodName) jdk_29_method_69_code (2 : Nat) (Option.some Jvm.ClassFile.FieldType.int), Jvm.Cond.code ({ cls := "com/example/nisaba/nisaba/TsvFileUnescapePinLaw", name := "out", desc := "(I)C" } : Jvm.MethodName) method_7_code (1 : Nat) (Option.some Jvm.ClassFile.FieldType.char), Jvm.Cond.code ({ cls := "com/example/nisaba/nisaba/TsvFileUnescapePinLaw", name := "meaning", desc := "(I)C" } : Jvm.MethodName) method_5_code (1 : Nat) (Option.some Jvm.ClassFile.FieldType.char), Jvm.Cond.code ({ cls := "java/lang/String", name := "valueOf", desc := "(C)Ljava/lang/String;" } : Jvm.MethodName) jdk_42_method_139_code (1 : Nat) (Option.some (Jvm.ClassFile.FieldType.object "java/lang/String")), Jvm.Cond.code ({ cls := "java/lang/StringLatin1", name := "toBytes", desc := "(C)[B" } : Jvm.MethodName) jdk_43_method_46_code (1 : Nat) (Option.some (Jvm.ClassFile.FieldType.array Jvm.ClassFile.FieldType.byte)), Jvm.Cond.code ({ cls := "java/lang/String", name := "<init>", desc := "([BB)V" } : Jvm.MethodName) jdk_42_method_151_code (3 : Nat) (Option.none : Option Jvm.ClassFile.FieldType)]
set_option maxRecDepth 65536 in
theorem codes_eq : words1.filter isCode = codes1 := rfl
theorem w_codes : ∀ c ∈ words1.filter isCode, c.before args0 about1 = true := by
  rw [codes_eq]
  intro c hc
  simp only [codes1, List.mem_cons, List.not_mem_nil, or_false] at hc
  rcases hc with rfl | rfl | rfl | rfl | rfl | rfl | rfl | rfl | rfl | rfl | rfl | rfl | rfl | rfl | rfl | rfl | rfl | rfl | rfl | rfl | rfl | rfl | rfl | rfl | rfl | rfl | rfl | rfl | rfl | rfl | rfl | rfl | rfl | rfl | rfl | rfl | rfl | rfl | rfl | rfl | rfl | rfl | rfl
  · exact w_c0
  · exact w_c1
  · exact w_c2
  · exact w_c3
  · exact w_c4
  · exact w_c5
  · exact w_c6
  · exact w_c7
  · exact w_c8
  · exact w_c9
  · exact w_c10
  · exact w_c11
  · exact w_c12
  · exact w_c13
  · exact w_c14
  · exact w_c15
  · exact w_c16
  · exact w_c17
  · exact w_c18
  · exact w_c19
  · exact w_c20
  · exact w_c21
  · exact w_c22
  · exact w_c23
  · exact w_c24
  · exact w_c25
  · exact w_c26
  · exact w_c27
  · exact w_c28
  · exact w_c29
  · exact w_c30
  · exact w_c31
  · exact w_c32
  · exact w_c33
  · exact w_c34
  · exact w_c35
  · exact w_c36
  · exact w_c37
  · exact w_c38
  · exact w_c39
  · exact w_c40
  · exact w_c41
  · exact w_c42
set_option maxRecDepth 65536 in
theorem w_t1 : (words1.take 24).all (fun c => isCode c || c.before args0 about1) = true := by decide +kernel
set_option maxRecDepth 65536 in
theorem w_t2 : ((words1.drop 24).take 24).all (fun c => isCode c || c.before args0 about1) = true := by decide +kernel
set_option maxRecDepth 65536 in
theorem w_t3 : (((words1.drop 24).drop 24).take 24).all (fun c => isCode c || c.before args0 about1) = true := by decide +kernel
set_option maxRecDepth 65536 in
theorem w_t4 : ((((words1.drop 24).drop 24).drop 24).take 24).all (fun c => isCode c || c.before args0 about1) = true := by decide +kernel
set_option maxRecDepth 65536 in
theorem w_t5 : (((((words1.drop 24).drop 24).drop 24).drop 24).take 24).all (fun c => isCode c || c.before args0 about1) = true := by decide +kernel
set_option maxRecDepth 65536 in
theorem w_t6 : ((((((words1.drop 24).drop 24).drop 24).drop 24).drop 24).take 24).all (fun c => isCode c || c.before args0 about1) = true := by decide +kernel
set_option maxRecDepth 65536 in
theorem w_t7 : (((((((words1.drop 24).drop 24).drop 24).drop 24).drop 24).drop 24).take 24).all (fun c => isCode c || c.before args0 about1) = true := by decide +kernel
set_option maxRecDepth 65536 in
theorem w_t8 : ((((((((words1.drop 24).drop 24).drop 24).drop 24).drop 24).drop 24).drop 24).take 24).all (fun c => isCode c || c.before args0 about1) = true := by decide +kernel
set_option maxRecDepth 65536 in
theorem w_t9 : ((((((((words1.drop 24).drop 24).drop 24).drop 24).drop 24).drop 24).drop 24).drop 24).all (fun c => isCode c || c.before args0 about1) = true := by decide +kernel
theorem w_tables : (allAtoms (Jvm.Cond.code x code maxLocals ret :: tables_1)).before args0 about1 = true := by
  rw [allAtoms_all]
  show words1.all (fun c => c.before args0 about1) = true
  refine all_split ?_ w_codes
  rw [← List.take_append_drop 24 words1, List.all_append, w_t1, ← List.take_append_drop 24 (words1.drop 24), List.all_append, w_t2, ← List.take_append_drop 24 ((words1.drop 24).drop 24), List.all_append, w_t3, ← List.take_append_drop 24 (((words1.drop 24).drop 24).drop 24), List.all_append, w_t4, ← List.take_append_drop 24 ((((words1.drop 24).drop 24).drop 24).drop 24), List.all_append, w_t5, ← List.take_append_drop 24 (((((words1.drop 24).drop 24).drop 24).drop 24).drop 24), List.all_append, w_t6, ← List.take_append_drop 24 ((((((words1.drop 24).drop 24).drop 24).drop 24).drop 24).drop 24), List.all_append, w_t7, ← List.take_append_drop 24 (((((((words1.drop 24).drop 24).drop 24).drop 24).drop 24).drop 24).drop 24), List.all_append, w_t8, w_t9]
  rfl
set_option maxRecDepth 65536 in
theorem w_rest : rest_1_c.before args0 about1 = true := by decide +kernel
set_option maxRecDepth 65536 in
theorem w_case : (Jvm.Cond.and given_1 narrow_1).before args0 about1 = true := by decide +kernel
set_option maxRecDepth 65536 in
theorem w_consts : constsHeld consts_1 about1 := Jvm.Lit.constsHeldB_iff.mp (by decide +kernel)
theorem w_applies : (headSpec (Jvm.Cond.code x code maxLocals ret :: tables_1) room_1).applies x e0.platform about1 = true :=
  (Spec.applies_iff w_frames).mpr ⟨w_running, w_runnable, w_alone, w_named, w_hears, w_ripe, w_room, w_tables⟩
theorem atStart : AtStart classFile x code maxLocals ret World_1 tables_1 room_1 Calls_1 rest_1 Pre_1 launch0 p0 e0 about1 theMethod args0 below0 :=
  ⟨lists_1, trivial, launch0.admits_env _ _ _, launch0.least_env, fairChoices_fair.cas, fairChoices_fair.clock, w_frames, w_args, w_heap, w_applies, ⟨w_consts, trivial⟩, w_rest, w_case⟩
end start1
theorem witness_1 : WitnessClaimed_1 := ⟨start1.p0, start1.e0, start1.about1, start1.theMethod, start1.args0, start1.below0, start1.atStart⟩
end Jvm.Pilot.@@N@@
