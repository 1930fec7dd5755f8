import JvmDerived
import JvmDerived.Pilot.@@N@@Statement
import JvmDerived.Pilot.@@N@@Code
set_option linter.unusedVariables false
set_option linter.unusedSimpArgs false
/- laws to paste: Road.backV (cut by pick.py; bodies as the Statement names them) -/
namespace Jvm.Pilot.@@N@@
namespace StrChars
open Jvm Sem ClassFile Op Lib Jvm.Stand Jvm.Free.XT Jvm.Free.ALB Jvm.Free.JM Jvm.Free
open Jvm.Lib.Cold (StaticIs)
/-- a char array whose places are chars -/
def Ch (a : Addr) (A : Cell) (U : State) : Prop := Arr .char a A U ∧ Typed .char A
theorem Ch.mv {a : Addr} {A : Cell} {U U' : State} (h : Ch a A U) (hal : U.vm.Alike U'.vm) (hh : U'.heap = U.heap) : Ch a A U' := ⟨h.1.mv hal hh, h.2⟩
theorem Ch.keep {a : Addr} {A : Cell} {U U' : State} (h : Ch a A U) (hal : U.vm.Alike U'.vm) (hk : U'.heap[a]? = some A) : Ch a A U' := ⟨h.1.keep hal hk, h.2⟩
/-- what place i of a char[]'s cell holds -/
def cv (A : Cell) (i : Nat) : Int32 := match A.slots[i]? with | some (.int x) => x | _ => 0
theorem Ch.get {a : Addr} {A : Cell} {U : State} (h : Ch a A U) {i : Nat} (hi : i < A.slots.size) : A.slots[i]? = some (.int (cv A i)) := by
  have e := Array.getElem?_eq_getElem hi
  have f := h.2 i _ e
  unfold cv; rw [e]
  generalize A.slots[i] = v at f
  cases v <;> simp [fits] at f ⊢
/-- the byte that i2b leaves of a char -/
def lo8 (x : Int32) : Int32 := x.toInt8.toInt32
theorem fits_lo8 (y : Int32) : fits .byte (.int (lo8 y)) = true := by
  have h1 := y.toInt8.le_toInt
  have h2 := y.toInt8.toInt_lt
  simp only [lo8, fits, Bool.and_eq_true, decide_eq_true_eq, Int32.le_iff_toInt_le, Int8.toInt_toInt32, show (-128 : Int32).toInt = -128 from by decide, show (127 : Int32).toInt = 127 from by decide]
  omega
/-- A' is A but that each place j of lo .. hi - 1 holds f j -/
def Laid (A A' : Cell) (lo hi : Nat) (f : Nat → Value) : Prop := A'.cls = A.cls ∧ A'.vm = A.vm ∧ A'.slots.size = A.slots.size ∧ ∀ i, A'.slots[i]? = if lo ≤ i ∧ i < hi then some (f i) else A.slots[i]?
theorem Laid.zero (A : Cell) (lo : Nat) (f : Nat → Value) : Laid A A lo (lo + 0) f := ⟨rfl, rfl, rfl, fun i => by rw [if_neg (by omega)]⟩
theorem Laid.step {A Ak : Cell} {lo k : Nat} {f : Nat → Value} {v : Value} (h : Laid A Ak lo k f) (hlo : lo ≤ k) (hk : k < Ak.slots.size) (hv : v = f k) : Laid A (Ak.setSlot k v) lo (k + 1) f := by
  refine ⟨h.1, h.2.1, by simpa [Cell.setSlot] using h.2.2.1, fun i => ?_⟩
  by_cases e : k = i
  · subst e; rw [Cell.slots_setSlot_self v hk, if_pos (by omega), hv]
  · rw [Cell.slots_setSlot_ne v e, h.2.2.2 i]
    by_cases q : lo ≤ i ∧ i < k
    · rw [if_pos q, if_pos (by omega)]
    · rw [if_neg q, if_neg (by omega)]
def U16 : String := "java/lang/StringUTF16"
namespace Cmp5
def yN : MethodName := ⟨"java/lang/StringUTF16", "compress", "([CI[BII)I"⟩
abbrev yB : ByteArray := jdk_52_method_21_code
theorem d0 : decode yB 0 = .ok (.iconst 0, 1) := by decide +kernel
theorem d1 : decode yB 1 = .ok (.istore 5, 2) := by decide +kernel
theorem d3 : decode yB 3 = .ok (.iload 5, 2) := by decide +kernel
theorem d5 : decode yB 5 = .ok (.iload 4, 2) := by decide +kernel
theorem d7 : decode yB 7 = .ok (.if_icmp (.ge) 37, 3) := by decide +kernel
theorem d10 : decode yB 10 = .ok (.aload_n 0, 1) := by decide +kernel
theorem d11 : decode yB 11 = .ok (.iload_n 1, 1) := by decide +kernel
theorem d12 : decode yB 12 = .ok (.caload, 1) := by decide +kernel
theorem d13 : decode yB 13 = .ok (.istore 6, 2) := by decide +kernel
theorem d15 : decode yB 15 = .ok (.iload 6, 2) := by decide +kernel
theorem d17 : decode yB 17 = .ok (.sipush 255, 3) := by decide +kernel
theorem d20 : decode yB 20 = .ok (.if_icmp (.le) 6, 3) := by decide +kernel
theorem d26 : decode yB 26 = .ok (.aload_n 2, 1) := by decide +kernel
theorem d27 : decode yB 27 = .ok (.iload_n 3, 1) := by decide +kernel
theorem d28 : decode yB 28 = .ok (.iload 6, 2) := by decide +kernel
theorem d30 : decode yB 30 = .ok (.i2b, 1) := by decide +kernel
theorem d31 : decode yB 31 = .ok (.bastore, 1) := by decide +kernel
theorem d32 : decode yB 32 = .ok (.iinc 1 1, 3) := by decide +kernel
theorem d35 : decode yB 35 = .ok (.iinc 3 1, 3) := by decide +kernel
theorem d38 : decode yB 38 = .ok (.iinc 5 1, 3) := by decide +kernel
theorem d41 : decode yB 41 = .ok (.goto (-38), 3) := by decide +kernel
theorem d44 : decode yB 44 = .ok (.iload 4, 2) := by decide +kernel
theorem d46 : decode yB 46 = .ok (.ireturn, 1) := by decide +kernel
def site : List Cond := []
def tab : Cond := tabOf yN yB 7 (some .int) site
def P (b : Addr) (A : Cell) (d : Addr) (B : Cell) (o q len : Nat) (args : Array Value) (s : State) : Prop := args = #[.ref b, .int (Int32.ofNat o), .ref d, .int (Int32.ofNat q), .int (Int32.ofNat len)] ∧ Ch b A s ∧ Arr .byte d B s ∧ b ≠ d ∧ o + len ≤ A.slots.size ∧ q + len ≤ B.slots.size ∧ ∀ i, i < len → ¬ 255 < cv A (o + i)
def E (b : Addr) (A : Cell) (d : Addr) (B : Cell) (o q len : Nat) (r : Option Value) (s u : State) : Prop := r = some (.int (Int32.ofNat len)) ∧ ∃ B', Put d B' s u ∧ Laid B B' q (q + len) (fun j => Value.int (lo8 (cv A (o + (j - q)))))
/-- no char of the range above 255: len; the places written hold each char's low byte -/
theorem law (l : Launch) (b : Addr) (A : Cell) (d : Addr) (B : Cell) (o q len : Nat) : Law l yN 5 5 0 0 yB 7 (some .int) site (P b A d B o q len) (E b A d B o q len) (copyLocs d q len) 0 0 := by
  refine Law.of_walk (plainFor_of_name (by decide +kernel)) (by decide +kernel) (by decide +kernel) (by decide) (fun _ _ h => by rw [h.1]; rfl) (fun _ U U' hal hh h => ⟨h.1, h.2.1.mv hal hh, h.2.2.1.mv hal hh, h.2.2.2⟩) (fun r U U' V V' h1 hal h2 h => ⟨h.1, h.2.elim fun B' q => ⟨B', q.1.mv h1 h2, q.2⟩⟩) ?_
  intro p e s m args below meth c s₁ X0 hexec hbytes hml hret hlk hnm hown hh0 W hP
  obtain ⟨rfl, hA, hB, hne, l1, l2, hp⟩ := hP
  have c1 : Steps p.tables e below (s₁.setTop (entryFrame m #[.ref b, .int (Int32.ofNat o), .ref d, .int (Int32.ofNat q), .int (Int32.ofNat len)] 7)) (s₁.setTop (mkF m 0 #[.val (.ref b), .val (.int (Int32.ofNat o)), .val (.ref d), .val (.int (Int32.ofNat q)), .val (.int (Int32.ofNat len)), .unset, .unset] [])) := entry rfl
  have hA0 := hA.1.mv X0.warmed.alike hh0
  have hB0 := hB.mv X0.warmed.alike hh0
  have a31 := hA.1.2.2.2
  have c2 : Steps p.tables e below (s₁.setTop (entryFrame m #[.ref b, .int (Int32.ofNat o), .ref d, .int (Int32.ofNat q), .int (Int32.ofNat len)] 7)) (s₁.setTop (mkF m 3 #[.val (.ref b), .val (.int (Int32.ofNat o)), .val (.ref d), .val (.int (Int32.ofNat q)), .val (.int (Int32.ofNat len)), .val (.int 0), .unset] [])) := c1.trans (by
    refine iconstV X0.here hexec rfl 0 (hb hbytes d0) (by decide) ?_
    refine XS.istore X0.here hexec rfl (hb hbytes d1) rfl rfl ?_
    exact Steps.refl _)
  have loop : ∀ (r i : Nat), i + r = len → ∀ (z : Slot), (z = .unset ∨ ∃ w, z = .val w ∧ w.category = 1) → ∀ (Tl : State) (Bk : Cell), Stand p l e { frames := 0, locals := 0, cells := 0, slots := 0 } s m #[.ref b, .int (Int32.ofNat o), .ref d, .int (Int32.ofNat q), .int (Int32.ofNat len)] below meth c Tl ([] ++ copyLocs d q i) 0 0 → Put d Bk s₁ Tl → Laid B Bk q (q + i) (fun j => Value.int (lo8 (cv A (o + (j - q))))) →
      Steps p.tables e below (s₁.setTop (entryFrame m #[.ref b, .int (Int32.ofNat o), .ref d, .int (Int32.ofNat q), .int (Int32.ofNat len)] 7)) (Tl.setTop (mkF m 3 #[.val (.ref b), .val (.int (Int32.ofNat (o + i))), .val (.ref d), .val (.int (Int32.ofNat (q + i))), .val (.int (Int32.ofNat len)), .val (.int (Int32.ofNat i)), z] [])) → ∃ (T' : State) (B' : Cell) (z' : Slot), Stand p l e { frames := 0, locals := 0, cells := 0, slots := 0 } s m #[.ref b, .int (Int32.ofNat o), .ref d, .int (Int32.ofNat q), .int (Int32.ofNat len)] below meth c T' ([] ++ copyLocs d q len) 0 0 ∧ Put d B' s₁ T' ∧ Laid B B' q (q + len) (fun j => Value.int (lo8 (cv A (o + (j - q))))) ∧
      Steps p.tables e below (s₁.setTop (entryFrame m #[.ref b, .int (Int32.ofNat o), .ref d, .int (Int32.ofNat q), .int (Int32.ofNat len)] 7)) (T'.setTop (mkF m 3 #[.val (.ref b), .val (.int (Int32.ofNat (o + len))), .val (.ref d), .val (.int (Int32.ofNat (q + len))), .val (.int (Int32.ofNat len)), .val (.int (Int32.ofNat len)), z'] [])) := by
    intro r
    induction r with
    | zero =>
      intro i hi z hz Tl Bk Xl pl fl cl
      have hil : i = len := by omega
      rw [hil] at Xl fl cl
      exact ⟨Tl, Bk, z, Xl, pl, fl, cl⟩
    | succ r ih =>
      intro i hi z hz Tl Bk Xl pl fl cl
      have all := X0.warmed.alike.symm.trans Xl.warmed.alike
      have hAl := hA0.keep all (pl.other hne hA0.1)
      have hBk := hB0.like all pl.1 fl.1 fl.2.1 fl.2.2.1
      have hlt : q + i < Bk.slots.size := by rw [fl.2.2.1]; omega
      have c3 : Steps p.tables e below (s₁.setTop (entryFrame m #[.ref b, .int (Int32.ofNat o), .ref d, .int (Int32.ofNat q), .int (Int32.ofNat len)] 7)) (Tl.setTop (mkF m 12 #[.val (.ref b), .val (.int (Int32.ofNat (o + i))), .val (.ref d), .val (.int (Int32.ofNat (q + i))), .val (.int (Int32.ofNat len)), .val (.int (Int32.ofNat i)), z] [.int (Int32.ofNat (o + i)), .ref b])) := cl.trans (by
        refine XS.iload Xl.here hexec rfl (hb hbytes d3) rfl ?_
        refine XS.iload Xl.here hexec rfl (hb hbytes d5) rfl ?_
        refine XS.icmpNo Xl.here hexec rfl (hb hbytes d7) rfl (ii_ge_f (lt32 (by omega) (by omega))) ?_
        refine XS.aloadN Xl.here hexec rfl (hb hbytes d10) rfl rfl ?_
        refine XS.iloadN Xl.here hexec rfl (hb hbytes d11) rfl ?_
        exact Steps.refl _)
      have c4 : Steps p.tables e below (s₁.setTop (entryFrame m #[.ref b, .int (Int32.ofNat o), .ref d, .int (Int32.ofNat q), .int (Int32.ofNat len)] 7)) (Tl.setTop (mkF m 13 #[.val (.ref b), .val (.int (Int32.ofNat (o + i))), .val (.ref d), .val (.int (Int32.ofNat (q + i))), .val (.int (Int32.ofNat len)), .val (.int (Int32.ofNat i)), z] [.int (cv A (o + i))])) := c3.trans (by
        refine Xl.aget hexec hAl rfl (hA.get (i := o + i) (by omega)) rfl rfl (hb hbytes d12) ?_
        exact Steps.refl _)
      have c5 : Steps p.tables e below (s₁.setTop (entryFrame m #[.ref b, .int (Int32.ofNat o), .ref d, .int (Int32.ofNat q), .int (Int32.ofNat len)] 7)) (Tl.setTop (mkF m 15 #[.val (.ref b), .val (.int (Int32.ofNat (o + i))), .val (.ref d), .val (.int (Int32.ofNat (q + i))), .val (.int (Int32.ofNat len)), .val (.int (Int32.ofNat i)), .val (.int (cv A (o + i)))] [])) := c4.trans (by
        refine XS.istoreS Xl.here hexec rfl (hb hbytes d13) rfl rfl hz ?_
        exact Steps.refl _)
      have c6 : Steps p.tables e below (s₁.setTop (entryFrame m #[.ref b, .int (Int32.ofNat o), .ref d, .int (Int32.ofNat q), .int (Int32.ofNat len)] 7)) (Tl.setTop (mkF m 31 #[.val (.ref b), .val (.int (Int32.ofNat (o + i))), .val (.ref d), .val (.int (Int32.ofNat (q + i))), .val (.int (Int32.ofNat len)), .val (.int (Int32.ofNat i)), .val (.int (cv A (o + i)))] [.int (lo8 (cv A (o + i))), .int (Int32.ofNat (q + i)), .ref d])) := c5.trans (by
        refine XS.iload Xl.here hexec rfl (hb hbytes d15) rfl ?_
        refine sipushV Xl.here hexec rfl 255 (hb hbytes d17) (by decide) ?_
        refine XS.icmpYes Xl.here hexec rfl (pc0 := 20) rfl (hb hbytes d20) rfl (ii_le_t (hp i (by omega))) (by decide) rfl ?_
        refine XS.aloadN Xl.here hexec rfl (hb hbytes d26) rfl rfl ?_
        refine XS.iloadN Xl.here hexec rfl (hb hbytes d27) rfl ?_
        refine XS.iload Xl.here hexec rfl (hb hbytes d28) rfl ?_
        refine i2b Xl.here hexec rfl (hb hbytes d30) rfl ?_
        exact Steps.refl _)
      obtain ⟨T7, X7, p7, st7⟩ := Xl.aput hexec hBk rfl hlt rfl (fits_lo8 (cv A (o + i))) (g := (mkF m 31 #[.val (.ref b), .val (.int (Int32.ofNat (o + i))), .val (.ref d), .val (.int (Int32.ofNat (q + i))), .val (.int (Int32.ofNat len)), .val (.int (Int32.ofNat i)), .val (.int (cv A (o + i)))] [.int (lo8 (cv A (o + i))), .int (Int32.ofNat (q + i)), .ref d])) rfl (rest := []) rfl (hb hbytes d31)
      have c8 : Steps p.tables e below (s₁.setTop (entryFrame m #[.ref b, .int (Int32.ofNat o), .ref d, .int (Int32.ofNat q), .int (Int32.ofNat len)] 7)) (T7.setTop (mkF m 32 #[.val (.ref b), .val (.int (Int32.ofNat (o + i))), .val (.ref d), .val (.int (Int32.ofNat (q + i))), .val (.int (Int32.ofNat len)), .val (.int (Int32.ofNat i)), .val (.int (cv A (o + i)))] [])) := c6.trans (st7 _ (Steps.refl _))
      have c9 : Steps p.tables e below (s₁.setTop (entryFrame m #[.ref b, .int (Int32.ofNat o), .ref d, .int (Int32.ofNat q), .int (Int32.ofNat len)] 7)) (T7.setTop (mkF m 3 #[.val (.ref b), .val (.int (Int32.ofNat (o + i) + 1)), .val (.ref d), .val (.int (Int32.ofNat (q + i) + 1)), .val (.int (Int32.ofNat len)), .val (.int (Int32.ofNat i + 1)), .val (.int (cv A (o + i)))] [])) := c8.trans (by
        refine iincV X7.here hexec rfl 1 (hb hbytes d32) (by decide) rfl rfl ?_
        refine iincV X7.here hexec rfl 1 (hb hbytes d35) (by decide) rfl rfl ?_
        refine iincV X7.here hexec rfl 1 (hb hbytes d38) (by decide) rfl rfl ?_
        refine XS.goto X7.here hexec rfl (pc0 := 41) rfl (hb hbytes d41) (by decide) rfl ?_
        exact Steps.refl _)
      have c10 : Steps p.tables e below (s₁.setTop (entryFrame m #[.ref b, .int (Int32.ofNat o), .ref d, .int (Int32.ofNat q), .int (Int32.ofNat len)] 7)) (T7.setTop (mkF m 3 #[.val (.ref b), .val (.int (Int32.ofNat (o + (i + 1)))), .val (.ref d), .val (.int (Int32.ofNat (q + (i + 1)))), .val (.int (Int32.ofNat len)), .val (.int (Int32.ofNat (i + 1))), .val (.int (cv A (o + i)))] [])) := by
        have := c9
        rw [succ32, succ32, succ32] at this
        exact this
      exact ih (i + 1) (by omega) _ (Or.inr ⟨_, rfl, rfl⟩) T7 _ (by rw [copyLocs_step, ← List.append_assoc]; exact X7) (pl.trans p7) (fl.step (by omega) hlt (by simp)) c10
  obtain ⟨T9, B9, z9, X9, p9, f9, g9⟩ := loop len 0 (by omega) .unset (Or.inl rfl) s₁ B (by simpa [copyLocs] using X0) ⟨hB0.1, fun _ _ => rfl, rfl⟩ (Laid.zero _ _ _) c2
  have c11 : Steps p.tables e below (s₁.setTop (entryFrame m #[.ref b, .int (Int32.ofNat o), .ref d, .int (Int32.ofNat q), .int (Int32.ofNat len)] 7)) (T9.setTop (mkF m 46 #[.val (.ref b), .val (.int (Int32.ofNat (o + len))), .val (.ref d), .val (.int (Int32.ofNat (q + len))), .val (.int (Int32.ofNat len)), .val (.int (Int32.ofNat len)), z9] [.int (Int32.ofNat len)])) := g9.trans (by
    refine XS.iload X9.here hexec rfl (hb hbytes d3) rfl ?_
    refine XS.iload X9.here hexec rfl (hb hbytes d5) rfl ?_
    refine XS.icmpYes X9.here hexec rfl (pc0 := 7) rfl (hb hbytes d7) rfl (ii_ge_t (nlt32 (by omega) (Nat.le_refl _))) (by decide) rfl ?_
    refine XS.iload X9.here hexec rfl (hb hbytes d44) rfl ?_
    exact Steps.refl _)
  exact ⟨T9, some (.int (Int32.ofNat len)), _, _, _, X9, by simp, rfl, rfl, (fun h => by cases h), ⟨rfl, B9, p9.from hh0, f9⟩, fun fs hl => c11.trans (X9.ireturnOut hexec hret rfl (Or.inl rfl) (hb hbytes d46) hl)⟩
end Cmp5
namespace Cmp3
def yN : MethodName := ⟨"java/lang/StringUTF16", "compress", "([CII)[B"⟩
abbrev yB : ByteArray := jdk_52_method_16_code
theorem d0 : decode yB 0 = .ok (.iload_n 2, 1) := by decide +kernel
theorem d1 : decode yB 1 = .ok (.newarray .byte, 2) := by decide +kernel
theorem d3 : decode yB 3 = .ok (.astore_n 3, 1) := by decide +kernel
theorem d4 : decode yB 4 = .ok (.aload_n 0, 1) := by decide +kernel
theorem d5 : decode yB 5 = .ok (.iload_n 1, 1) := by decide +kernel
theorem d6 : decode yB 6 = .ok (.aload_n 3, 1) := by decide +kernel
theorem d7 : decode yB 7 = .ok (.iconst 0, 1) := by decide +kernel
theorem d8 : decode yB 8 = .ok (.iload_n 2, 1) := by decide +kernel
theorem d9 : decode yB 9 = .ok (.invokestatic 115, 3) := by decide +kernel
theorem d12 : decode yB 12 = .ok (.istore 4, 2) := by decide +kernel
theorem d14 : decode yB 14 = .ok (.iload 4, 2) := by decide +kernel
theorem d16 : decode yB 16 = .ok (.iload_n 2, 1) := by decide +kernel
theorem d17 : decode yB 17 = .ok (.if_icmp (.eq) 40, 3) := by decide +kernel
theorem d57 : decode yB 57 = .ok (.aload_n 3, 1) := by decide +kernel
theorem d58 : decode yB 58 = .ok (.areturn, 1) := by decide +kernel
def site : List Cond := [.arrayClass .byte, Cmp5.tab] ++ staticW U16 115 Cmp5.yN
def tab : Cond := tabOf yN yB 6 (some (.array .byte)) site
def P (b : Addr) (A : Cell) (o len : Nat) (args : Array Value) (s : State) : Prop := args = #[.ref b, .int (Int32.ofNat o), .int (Int32.ofNat len)] ∧ Ch b A s ∧ o + len ≤ A.slots.size ∧ len ≤ 536870912 ∧ ∀ i, i < len → ¬ 255 < cv A (o + i)
def E (b : Addr) (A : Cell) (o len : Nat) (r : Option Value) (s u : State) : Prop := NewArr .byte "[B" len (fun j => .int (lo8 (cv A (o + j)))) r s u ∧ u.heap.size = s.heap.size + 1
/-- no char of the range above 255: a new byte[] of their low bytes -/
theorem law (l : Launch) (b : Addr) (A : Cell) (o len : Nat) : Law l yN 3 3 1 18 yB 6 (some (.array .byte)) site (P b A o len) (E b A o len) [] 1 len := by
  refine Law.of_walk (plainFor_of_name (by decide +kernel)) (by decide +kernel) (by decide +kernel) (by decide) (fun _ _ h => by rw [h.1]; rfl) (fun _ U U' hal hh h => ⟨h.1, h.2.1.mv hal hh, h.2.2⟩) (fun r U U' V V' h1 hal h2 h => ⟨NewArr.mv r U U' V V' h1 hal h2 h.1, by rw [h1, h2]; exact h.2⟩) ?_
  intro p e s m args below meth c s₁ X0 hexec hbytes hml hret hlk hnm hown hh0 W hP
  obtain ⟨rfl, hA, l1, l2, hp⟩ := hP
  have a31 := hA.1.2.2.2
  have c1 : Steps p.tables e below (s₁.setTop (entryFrame m #[.ref b, .int (Int32.ofNat o), .int (Int32.ofNat len)] 6)) (s₁.setTop (mkF m 0 #[.val (.ref b), .val (.int (Int32.ofNat o)), .val (.int (Int32.ofNat len)), .unset, .unset, .unset] [])) := entry rfl
  have c2 : Steps p.tables e below (s₁.setTop (entryFrame m #[.ref b, .int (Int32.ofNat o), .int (Int32.ofNat len)] 6)) (s₁.setTop (mkF m 1 #[.val (.ref b), .val (.int (Int32.ofNat o)), .val (.int (Int32.ofNat len)), .unset, .unset, .unset] [.int (Int32.ofNat len)])) := c1.trans (by
    refine XS.iloadN X0.here hexec rfl (hb hbytes d0) rfl ?_
    exact Steps.refl _)
  obtain ⟨T3, B3, X3, ba3, bs3, bv3, bh3, bf3, st3⟩ := X0.anew hexec (atype := .byte) (wk W (.arrayClass .byte)) rfl (by show len * 1 ≤ _; omega) (by omega) (g := (mkF m 1 #[.val (.ref b), .val (.int (Int32.ofNat o)), .val (.int (Int32.ofNat len)), .unset, .unset, .unset] [.int (Int32.ofNat len)])) rfl (hb hbytes d1) (rest := []) rfl (Nat.le_refl _) (by show 0 + len ≤ len; omega)
  rw [hh0] at ba3 st3
  have kp3 : XT.Kept s T3 := (XT.Kept.of_eq hh0).push bh3
  have hA3 := hA.keep X3.warmed.alike (kp3 _ _ hA.1.1)
  have hne : b ≠ s.heap.size := hA.1.ne
  have c4 : Steps p.tables e below (s₁.setTop (entryFrame m #[.ref b, .int (Int32.ofNat o), .int (Int32.ofNat len)] 6)) (T3.setTop (mkF m 3 #[.val (.ref b), .val (.int (Int32.ofNat o)), .val (.int (Int32.ofNat len)), .unset, .unset, .unset] [.ref s.heap.size])) := c2.trans (st3 _ (Steps.refl _))
  have c5 : Steps p.tables e below (s₁.setTop (entryFrame m #[.ref b, .int (Int32.ofNat o), .int (Int32.ofNat len)] 6)) (T3.setTop (mkF m 9 #[.val (.ref b), .val (.int (Int32.ofNat o)), .val (.int (Int32.ofNat len)), .val (.ref s.heap.size), .unset, .unset] [.int (Int32.ofNat len), .int 0, .ref s.heap.size, .int (Int32.ofNat o), .ref b])) := c4.trans (by
    refine XS.astoreN X3.here hexec rfl (hb hbytes d3) rfl rfl rfl ?_
    refine XS.aloadN X3.here hexec rfl (hb hbytes d4) rfl rfl ?_
    refine XS.iloadN X3.here hexec rfl (hb hbytes d5) rfl ?_
    refine XS.aloadN X3.here hexec rfl (hb hbytes d6) rfl rfl ?_
    refine iconstV X3.here hexec rfl 0 (hb hbytes d7) (by decide) ?_
    refine XS.iloadN X3.here hexec rfl (hb hbytes d8) rfl ?_
    exact Steps.refl _)
  obtain ⟨v6, T6, X6, E6, g6⟩ := X3.callS hexec (Cmp5.law l b A s.heap.size B3 o 0 len) hown (wks W (staticW U16 115 Cmp5.yN)) (wk W Cmp5.tab) (W := 0) (Nat.le_of_ble_eq_true rfl) (Nat.le_of_ble_eq_true rfl) (Nat.le_refl _) (by show 0 + len + 0 ≤ len; omega) (g := (mkF m 9 #[.val (.ref b), .val (.int (Int32.ofNat o)), .val (.int (Int32.ofNat len)), .val (.ref s.heap.size), .unset, .unset] [.int (Int32.ofNat len), .int (Int32.ofNat 0), .ref s.heap.size, .int (Int32.ofNat o), .ref b])) rfl (by rw [hml]; rfl) c5 (argsL := [.ref b, .int (Int32.ofNat o), .ref s.heap.size, .int (Int32.ofNat 0), .int (Int32.ofNat len)]) (rest := []) rfl rfl (by show 2 * 0 + 0 ≤ _; decide) (hb hbytes d9) (⟨rfl, hA3, ba3, hne, l1, by rw [bs3]; simp, hp⟩)
  obtain ⟨rfl, B6, p6, f6⟩ := E6
  have c7 : Steps p.tables e below (s₁.setTop (entryFrame m #[.ref b, .int (Int32.ofNat o), .int (Int32.ofNat len)] 6)) (T6.setTop (mkF m 12 #[.val (.ref b), .val (.int (Int32.ofNat o)), .val (.int (Int32.ofNat len)), .val (.ref s.heap.size), .unset, .unset] [.int (Int32.ofNat len)])) := g6
  have c8 : Steps p.tables e below (s₁.setTop (entryFrame m #[.ref b, .int (Int32.ofNat o), .int (Int32.ofNat len)] 6)) (T6.setTop (mkF m 58 #[.val (.ref b), .val (.int (Int32.ofNat o)), .val (.int (Int32.ofNat len)), .val (.ref s.heap.size), .val (.int (Int32.ofNat len)), .unset] [.ref s.heap.size])) := c7.trans (by
    refine XS.istore X6.here hexec rfl (hb hbytes d12) rfl rfl ?_
    refine XS.iload X6.here hexec rfl (hb hbytes d14) rfl ?_
    refine XS.iloadN X6.here hexec rfl (hb hbytes d16) rfl ?_
    refine XS.icmpYes X6.here hexec rfl (pc0 := 17) rfl (hb hbytes d17) rfl (ii_eq_t rfl) (by decide) rfl ?_
    refine XS.aloadN X6.here hexec rfl (hb hbytes d57) rfl rfl ?_
    exact Steps.refl _)
  have X8 := X6.wide (L' := []) (cells' := 1) (slots' := len) (fun x hx hlt => by
    simp only [List.nil_append, copyLocs, List.mem_map, List.mem_range] at hx
    obtain ⟨i, -, rfl⟩ := hx
    exact absurd hlt (Nat.lt_irrefl _)) (Nat.le_refl _) (by omega)
  exact ⟨T6, some (.ref s.heap.size), _, _, _, X8, rfl, rfl, rfl, (fun h => by cases h), ⟨⟨rfl, B6, ba3.like (X3.warmed.alike.symm.trans X6.warmed.alike) p6.1 f6.1 f6.2.1 f6.2.2.1, f6.2.1.trans bv3, by rw [X6.warmed.alike.findClass, f6.1]; exact bf3, by rw [f6.2.2.1, bs3]; simp, fun j hj => by rw [f6.2.2.2 j, if_pos (by omega)]; rfl, kp3.put p6 (Nat.le_refl _)⟩, by rw [p6.2.2, bh3, hh0]; simp⟩, fun fs hl => c8.trans (X8.areturnOut hexec rfl hret rfl (hb hbytes d58) hl)⟩
end Cmp3
namespace CodL
def yN : MethodName := ⟨"java/lang/StringUTF16", "coderFromArrayLen", "([BI)B"⟩
abbrev yB : ByteArray := jdk_52_method_15_code
theorem d0 : decode yB 0 = .ok (.iload_n 1, 1) := by decide +kernel
theorem d1 : decode yB 1 = .ok (.aload_n 0, 1) := by decide +kernel
theorem d2 : decode yB 2 = .ok (.arraylength, 1) := by decide +kernel
theorem d3 : decode yB 3 = .ok (.isub, 1) := by decide +kernel
theorem d4 : decode yB 4 = .ok (.bipush 31, 2) := by decide +kernel
theorem d6 : decode yB 6 = .ok (.iushr, 1) := by decide +kernel
theorem d7 : decode yB 7 = .ok (.i2b, 1) := by decide +kernel
theorem d8 : decode yB 8 = .ok (.ireturn, 1) := by decide +kernel
def site : List Cond := []
def tab : Cond := tabOf yN yB 2 (some .byte) site
def P (d : Addr) (B : Cell) (args : Array Value) (s : State) : Prop := args = #[.ref d, .int (Int32.ofNat B.slots.size)] ∧ Arr .byte d B s
def E (r : Option Value) (s u : State) : Prop := XT.PureE (some (.int 0)) r s u
/-- an array as long as the number of chars: LATIN1 -/
theorem law (l : Launch) (d : Addr) (B : Cell) : Law l yN 2 2 0 0 yB 2 (some .byte) site (P d B) E [] 0 0 := by
  refine Law.of_walk (plainFor_of_name (by decide +kernel)) (by decide +kernel) (by decide +kernel) (by decide) (fun _ _ h => by rw [h.1]; rfl) (fun _ U U' hal hh h => ⟨h.1, h.2.mv hal hh⟩) (fun r U U' V V' h1 hal h2 h => XT.PureE.mv r U U' V V' h1 hal h2 h) ?_
  intro p e s m args below meth c s₁ X0 hexec hbytes hml hret hlk hnm hown hh0 W hP
  obtain ⟨rfl, hB⟩ := hP
  have hB0 := hB.mv X0.warmed.alike hh0
  have c1 : Steps p.tables e below (s₁.setTop (entryFrame m #[.ref d, .int (Int32.ofNat B.slots.size)] 2)) (s₁.setTop (mkF m 0 #[.val (.ref d), .val (.int (Int32.ofNat B.slots.size))] [])) := entry rfl
  have c2 : Steps p.tables e below (s₁.setTop (entryFrame m #[.ref d, .int (Int32.ofNat B.slots.size)] 2)) (s₁.setTop (mkF m 2 #[.val (.ref d), .val (.int (Int32.ofNat B.slots.size))] [.ref d, .int (Int32.ofNat B.slots.size)])) := c1.trans (by
    refine XS.iloadN X0.here hexec rfl (hb hbytes d0) rfl ?_
    refine XS.aloadN X0.here hexec rfl (hb hbytes d1) rfl rfl ?_
    exact Steps.refl _)
  have c3 : Steps p.tables e below (s₁.setTop (entryFrame m #[.ref d, .int (Int32.ofNat B.slots.size)] 2)) (s₁.setTop (mkF m 8 #[.val (.ref d), .val (.int (Int32.ofNat B.slots.size))] [.int (lo8 (ushr (Int32.ofNat B.slots.size - Int32.ofNat B.slots.size) 31))])) := c2.trans (by
    refine X0.alen hexec hB0 rfl rfl (hb hbytes d2) ?_
    refine XS.isub X0.here hexec rfl (hb hbytes d3) rfl ?_
    refine bipushV X0.here hexec rfl 31 (hb hbytes d4) (by decide) ?_
    refine iushr X0.here hexec rfl (hb hbytes d6) rfl ?_
    refine i2b X0.here hexec rfl (hb hbytes d7) rfl ?_
    exact Steps.refl _)
  have e0 : lo8 (ushr (Int32.ofNat B.slots.size - Int32.ofNat B.slots.size) 31) = 0 := by rw [Int32.sub_self]; decide
  rw [e0] at c3
  exact ⟨s₁, some (.int 0), _, _, _, X0, rfl, rfl, rfl, (fun h => by cases h), ⟨rfl, hh0⟩, fun fs hl => c3.trans (X0.ireturnOut hexec hret rfl (Or.inr (Or.inr (Or.inl rfl))) (hb hbytes d8) hl)⟩
end CodL
/-- the String at a is Latin-1 over a new byte[] (the heap's one new cell): the low bytes of the len chars of A from o on; every cell but a is kept -/
def Got (a : Addr) (D : Cell) (fV fC : Field) (A : Cell) (o len : Nat) (r : Option Value) (s u : State) : Prop := r = none ∧ ∃ D' V : Cell, Blank "java/lang/String" a D' u ∧ Same D D' [fV.slot, fC.slot] ∧ D'.slots[fV.slot]? = some (.ref s.heap.size) ∧ D'.slots[fC.slot]? = some (.int 0) ∧ Arr .byte s.heap.size V u ∧ V.vm = .none ∧ u.vm.findClass "[B" = some V.cls ∧ V.slots.size = len ∧ (∀ j, j < len → V.slots[j]? = some (.int (lo8 (cv A (o + j))))) ∧ (∀ (y : Addr) (c : Cell), y ≠ a → s.heap[y]? = some c → u.heap[y]? = some c) ∧ u.heap.size = s.heap.size + 1
theorem Got.mv {a : Addr} {D A : Cell} {fV fC : Field} {o len : Nat} : ∀ r (U U' V V' : State), U'.heap = U.heap → V.vm.Alike V'.vm → V'.heap = V.heap → Got a D fV fC A o len r U V → Got a D fV fC A o len r U' V' :=
  fun r U U' V V' h1 hal h2 ⟨e0, D', X, a1, a2, a3, a4, a5, a6, a7, a8, a9, a10, a11⟩ => ⟨e0, D', X, a1.mv hal h2, a2, by rw [h1]; exact a3, a4, by rw [h1]; exact a5.mv hal h2, a6, by rw [hal.findClass]; exact a7, a8, a9, by rw [h1, h2]; exact a10, by rw [h1, h2]; exact a11⟩
namespace New4
def yN : MethodName := ⟨"java/lang/String", "<init>", "([CIILjava/lang/Void;)V"⟩
abbrev yB : ByteArray := jdk_42_method_149_code
theorem d0 : decode yB 0 = .ok (.aload_n 0, 1) := by decide +kernel
theorem d1 : decode yB 1 = .ok (.invokespecial 1, 3) := by decide +kernel
theorem d4 : decode yB 4 = .ok (.iload_n 3, 1) := by decide +kernel
theorem d5 : decode yB 5 = .ok (.ifCond (.ne) 22, 3) := by decide +kernel
theorem d27 : decode yB 27 = .ok (.getstatic 38, 3) := by decide +kernel
theorem d30 : decode yB 30 = .ok (.ifCond (.eq) 28, 3) := by decide +kernel
theorem d33 : decode yB 33 = .ok (.aload_n 1, 1) := by decide +kernel
theorem d34 : decode yB 34 = .ok (.iload_n 2, 1) := by decide +kernel
theorem d35 : decode yB 35 = .ok (.iload_n 3, 1) := by decide +kernel
theorem d36 : decode yB 36 = .ok (.invokestatic 177, 3) := by decide +kernel
theorem d39 : decode yB 39 = .ok (.astore 5, 2) := by decide +kernel
theorem d41 : decode yB 41 = .ok (.aload_n 0, 1) := by decide +kernel
theorem d42 : decode yB 42 = .ok (.aload 5, 2) := by decide +kernel
theorem d44 : decode yB 44 = .ok (.iload_n 3, 1) := by decide +kernel
theorem d45 : decode yB 45 = .ok (.invokestatic 47, 3) := by decide +kernel
theorem d48 : decode yB 48 = .ok (.putfield 15, 3) := by decide +kernel
theorem d51 : decode yB 51 = .ok (.aload_n 0, 1) := by decide +kernel
theorem d52 : decode yB 52 = .ok (.aload 5, 2) := by decide +kernel
theorem d54 : decode yB 54 = .ok (.putfield 9, 3) := by decide +kernel
theorem d57 : decode yB 57 = .ok (.return_, 1) := by decide +kernel
def site : List Cond := [.fieldLink "java/lang/String" 38 "java/lang/String" "COMPACT_STRINGS" "Z", Cmp3.tab, CodL.tab, .laysFinal "java/lang/String" "java/lang/String" "value" "[B", .fieldLink "java/lang/String" 9 "java/lang/String" "value" "[B", .laysFinal "java/lang/String" "java/lang/String" "coder" "B", .fieldLink "java/lang/String" 15 "java/lang/String" "coder" "B"] ++ objW "java/lang/String" 1 ++ staticW "java/lang/String" 177 Cmp3.yN ++ staticW "java/lang/String" 47 CodL.yN
def tab : Cond := tabOf yN yB 6 none site
def P (a : Addr) (D : Cell) (fV fC : Field) (b : Addr) (A : Cell) (z : Int32) (o len : Nat) (args : Array Value) (s : State) : Prop := args = #[.ref a, .ref b, .int (Int32.ofNat o), .int (Int32.ofNat len), .null] ∧ Blank "java/lang/String" a D s ∧ Found "java/lang/String" "value" "[B" fV s ∧ Found "java/lang/String" "coder" "B" fC s ∧ Ch b A s ∧ StaticIs s "java/lang/String" "COMPACT_STRINGS" "Z" (.int z) ∧ ¬ z = 0 ∧ 0 < len ∧ o + len ≤ A.slots.size ∧ len ≤ 536870912 ∧ ∀ i, i < len → ¬ 255 < cv A (o + i)
def E (a : Addr) (D : Cell) (fV fC : Field) (A : Cell) (o len : Nat) (r : Option Value) (s u : State) : Prop := Got a D fV fC A o len r s u
/-- len > 0, no char of the range above 255: a Latin-1 String of their low bytes -/
theorem law (l : Launch) (a : Addr) (D : Cell) (fV fC : Field) (b : Addr) (A : Cell) (z : Int32) (o len : Nat) : Law l yN 5 4 2 35 yB 6 none site (P a D fV fC b A z o len) (E a D fV fC A o len) [⟨a, fC.slot⟩, ⟨a, fV.slot⟩] 1 len := by
  refine Law.of_walk (plainFor_of_name (by decide +kernel)) (by decide +kernel) (by decide +kernel) (by decide) (fun _ _ h => by rw [h.1]; rfl) (fun _ U U' hal hh h => ⟨h.1, h.2.1.mv hal hh, h.2.2.1.al hal, h.2.2.2.1.al hal, h.2.2.2.2.1.mv hal hh, h.2.2.2.2.2.1.there hal hh, h.2.2.2.2.2.2⟩) (fun r U U' V V' h1 hal h2 h => Got.mv r U U' V V' h1 hal h2 h) ?_
  intro p e s m args below meth c s₁ X0 hexec hbytes hml hret hlk hnm hown hh0 W hP
  obtain ⟨rfl, hB, f1, f2, hA, s1, hz, l0, l1, l2, hp⟩ := hP
  have a31 := hA.1.2.2.2
  have c1 : Steps p.tables e below (s₁.setTop (entryFrame m #[.ref a, .ref b, .int (Int32.ofNat o), .int (Int32.ofNat len), .null] 6)) (s₁.setTop (mkF m 0 #[.val (.ref a), .val (.ref b), .val (.int (Int32.ofNat o)), .val (.int (Int32.ofNat len)), .val .null, .unset] [])) := entry rfl
  have c2 : Steps p.tables e below (s₁.setTop (entryFrame m #[.ref a, .ref b, .int (Int32.ofNat o), .int (Int32.ofNat len), .null] 6)) (s₁.setTop (mkF m 1 #[.val (.ref a), .val (.ref b), .val (.int (Int32.ofNat o)), .val (.int (Int32.ofNat len)), .val .null, .unset] [.ref a])) := c1.trans (by
    refine XS.aloadN X0.here hexec rfl (hb hbytes d0) rfl rfl ?_
    exact Steps.refl _)
  obtain ⟨T3, X3, q3, st3⟩ := X0.oinit hexec hown (wks W (objW "java/lang/String" 1)) (g := (mkF m 1 #[.val (.ref a), .val (.ref b), .val (.int (Int32.ofNat o)), .val (.int (Int32.ofNat len)), .val .null, .unset] [.ref a])) rfl (by rw [hml]; rfl) (rest := []) rfl (hb hbytes d1) (W := 0) (by show 2 * 0 + 0 ≤ _; decide) (Nat.le_of_ble_eq_true rfl) (Nat.le_of_ble_eq_true rfl)
  have hh3 := q3.trans hh0
  have c4 : Steps p.tables e below (s₁.setTop (entryFrame m #[.ref a, .ref b, .int (Int32.ofNat o), .int (Int32.ofNat len), .null] 6)) (T3.setTop (mkF m 27 #[.val (.ref a), .val (.ref b), .val (.int (Int32.ofNat o)), .val (.int (Int32.ofNat len)), .val .null, .unset] [])) := (c2.trans (st3 _ (Steps.refl _))).trans (by
    refine XS.iloadN X3.here hexec rfl (hb hbytes d4) rfl ?_
    refine XS.ifYes X3.here hexec rfl (pc0 := 5) rfl (hb hbytes d5) rfl (i0_ne_t (nz32 (by omega) l0)) (by decide) rfl ?_
    exact Steps.refl _)
  obtain ⟨T5, X5, q5, st5⟩ := X3.sget hexec hown (wk W (.fieldLink "java/lang/String" 38 "java/lang/String" "COMPACT_STRINGS" "Z")) s1 (fun _ _ h => by rw [hh3]; exact h) (g := (mkF m 27 #[.val (.ref a), .val (.ref b), .val (.int (Int32.ofNat o)), .val (.int (Int32.ofNat len)), .val .null, .unset] [])) rfl (hb hbytes d27)
  have hh5 := q5.trans hh3
  have c6 : Steps p.tables e below (s₁.setTop (entryFrame m #[.ref a, .ref b, .int (Int32.ofNat o), .int (Int32.ofNat len), .null] 6)) (T5.setTop (mkF m 30 #[.val (.ref a), .val (.ref b), .val (.int (Int32.ofNat o)), .val (.int (Int32.ofNat len)), .val .null, .unset] [.int z])) := c4.trans (st5 _ (Steps.refl _))
  have c7 : Steps p.tables e below (s₁.setTop (entryFrame m #[.ref a, .ref b, .int (Int32.ofNat o), .int (Int32.ofNat len), .null] 6)) (T5.setTop (mkF m 36 #[.val (.ref a), .val (.ref b), .val (.int (Int32.ofNat o)), .val (.int (Int32.ofNat len)), .val .null, .unset] [.int (Int32.ofNat len), .int (Int32.ofNat o), .ref b])) := c6.trans (by
    refine XS.ifNo X5.here hexec rfl (hb hbytes d30) rfl (i0_eq_f hz) ?_
    refine XS.aloadN X5.here hexec rfl (hb hbytes d33) rfl rfl ?_
    refine XS.iloadN X5.here hexec rfl (hb hbytes d34) rfl ?_
    refine XS.iloadN X5.here hexec rfl (hb hbytes d35) rfl ?_
    exact Steps.refl _)
  obtain ⟨v8, T8, X8, E8, g8⟩ := X5.callS hexec (Cmp3.law l b A o len) hown (wks W (staticW "java/lang/String" 177 Cmp3.yN)) (wk W Cmp3.tab) (W := 0) (Nat.le_of_ble_eq_true rfl) (Nat.le_of_ble_eq_true rfl) (Nat.le_refl _) (by show 0 + len ≤ len; omega) (g := (mkF m 36 #[.val (.ref a), .val (.ref b), .val (.int (Int32.ofNat o)), .val (.int (Int32.ofNat len)), .val .null, .unset] [.int (Int32.ofNat len), .int (Int32.ofNat o), .ref b])) rfl (by rw [hml]; rfl) c7 (argsL := [.ref b, .int (Int32.ofNat o), .int (Int32.ofNat len)]) (rest := []) rfl rfl (by show 2 * 0 + 0 ≤ _; decide) (hb hbytes d36) (⟨rfl, hA.mv X5.warmed.alike hh5, l1, l2, hp⟩)
  obtain ⟨e8, z8⟩ := E8
  obtain ⟨rfl, N, n1, n2, n3, n4, n5, n6⟩ := NewArr.mv _ T5 s _ _ hh5.symm (Vm.Alike.refl _) rfl e8
  rw [hh5] at z8
  have hB1 := hB.keep X8.warmed.alike (n6 _ _ hB.1)
  have hne : s.heap.size ≠ a := (Nat.ne_of_lt (Array.getElem?_eq_some_iff.mp hB.1).1).symm
  have c9 : Steps p.tables e below (s₁.setTop (entryFrame m #[.ref a, .ref b, .int (Int32.ofNat o), .int (Int32.ofNat len), .null] 6)) (T8.setTop (mkF m 39 #[.val (.ref a), .val (.ref b), .val (.int (Int32.ofNat o)), .val (.int (Int32.ofNat len)), .val .null, .unset] [.ref s.heap.size])) := g8
  have c10 : Steps p.tables e below (s₁.setTop (entryFrame m #[.ref a, .ref b, .int (Int32.ofNat o), .int (Int32.ofNat len), .null] 6)) (T8.setTop (mkF m 45 #[.val (.ref a), .val (.ref b), .val (.int (Int32.ofNat o)), .val (.int (Int32.ofNat len)), .val .null, .val (.ref s.heap.size)] [.int (Int32.ofNat N.slots.size), .ref s.heap.size, .ref a])) := by
    have hc : Steps p.tables e below (s₁.setTop (entryFrame m #[.ref a, .ref b, .int (Int32.ofNat o), .int (Int32.ofNat len), .null] 6)) (T8.setTop (mkF m 45 #[.val (.ref a), .val (.ref b), .val (.int (Int32.ofNat o)), .val (.int (Int32.ofNat len)), .val .null, .val (.ref s.heap.size)] [.int (Int32.ofNat len), .ref s.heap.size, .ref a])) := c9.trans (by
      refine XS.astore X8.here hexec rfl (hb hbytes d39) rfl rfl rfl ?_
      refine XS.aloadN X8.here hexec rfl (hb hbytes d41) rfl rfl ?_
      refine XS.aload X8.here hexec rfl (hb hbytes d42) rfl rfl ?_
      refine XS.iloadN X8.here hexec rfl (hb hbytes d44) rfl ?_
      exact Steps.refl _)
    rw [n4]; exact hc
  obtain ⟨v11, T11, X11, E11, g11⟩ := X8.callS hexec (CodL.law l s.heap.size N) hown (wks W (staticW "java/lang/String" 47 CodL.yN)) (wk W CodL.tab) (W := 1) (Nat.le_of_ble_eq_true rfl) (Nat.le_of_ble_eq_true rfl) (Nat.le_refl _) (by show 0 + len + 0 ≤ len; omega) (g := (mkF m 45 #[.val (.ref a), .val (.ref b), .val (.int (Int32.ofNat o)), .val (.int (Int32.ofNat len)), .val .null, .val (.ref s.heap.size)] [.int (Int32.ofNat N.slots.size), .ref s.heap.size, .ref a])) rfl (by rw [hml]; rfl) c10 (argsL := [.ref s.heap.size, .int (Int32.ofNat N.slots.size)]) (rest := [.ref a]) rfl rfl (by show 2 * 0 + (1 + 0) ≤ _; decide) (hb hbytes d45) (⟨rfl, n1⟩)
  obtain ⟨rfl, q11⟩ := E11
  have hB11 := hB1.mv (X8.warmed.alike.symm.trans X11.warmed.alike) q11
  have c12 : Steps p.tables e below (s₁.setTop (entryFrame m #[.ref a, .ref b, .int (Int32.ofNat o), .int (Int32.ofNat len), .null] 6)) (T11.setTop (mkF m 48 #[.val (.ref a), .val (.ref b), .val (.int (Int32.ofNat o)), .val (.int (Int32.ofNat len)), .val .null, .val (.ref s.heap.size)] [.int 0, .ref a])) := g11
  obtain ⟨T13, X13, p13, bl13, sl13, st13⟩ := X11.finit hexec hown (wk W (.fieldLink "java/lang/String" 15 "java/lang/String" "coder" "B")) (Or.inr ⟨_, (wk W (.laysFinal "java/lang/String" "java/lang/String" "coder" "B"))⟩) (Or.inl ⟨rfl, hnm⟩) f2 (Or.inl rfl) hB11 (t := .byte) (by decide +kernel) rfl (g := (mkF m 48 #[.val (.ref a), .val (.ref b), .val (.int (Int32.ofNat o)), .val (.int (Int32.ofNat len)), .val .null, .val (.ref s.heap.size)] [.int 0, .ref a])) rfl (rest := []) rfl (hb hbytes d48)
  have c14 : Steps p.tables e below (s₁.setTop (entryFrame m #[.ref a, .ref b, .int (Int32.ofNat o), .int (Int32.ofNat len), .null] 6)) (T13.setTop (mkF m 54 #[.val (.ref a), .val (.ref b), .val (.int (Int32.ofNat o)), .val (.int (Int32.ofNat len)), .val .null, .val (.ref s.heap.size)] [.ref s.heap.size, .ref a])) := (c12.trans (st13 _ (Steps.refl _))).trans (by
    refine XS.aloadN X13.here hexec rfl (hb hbytes d51) rfl rfl ?_
    refine XS.aload X13.here hexec rfl (hb hbytes d52) rfl rfl ?_
    exact Steps.refl _)
  obtain ⟨T15, X15, p15, bl15, sl15, st15⟩ := X13.finit hexec hown (wk W (.fieldLink "java/lang/String" 9 "java/lang/String" "value" "[B")) (Or.inr ⟨_, (wk W (.laysFinal "java/lang/String" "java/lang/String" "value" "[B"))⟩) (Or.inl ⟨rfl, hnm⟩) f1 (Or.inl rfl) bl13 (t := (.array .byte)) (by decide +kernel) rfl (g := (mkF m 54 #[.val (.ref a), .val (.ref b), .val (.int (Int32.ofNat o)), .val (.int (Int32.ofNat len)), .val .null, .val (.ref s.heap.size)] [.ref s.heap.size, .ref a])) rfl (rest := []) rfl (hb hbytes d54)
  have c16 : Steps p.tables e below (s₁.setTop (entryFrame m #[.ref a, .ref b, .int (Int32.ofNat o), .int (Int32.ofNat len), .null] 6)) (T15.setTop (mkF m 57 #[.val (.ref a), .val (.ref b), .val (.int (Int32.ofNat o)), .val (.int (Int32.ofNat len)), .val .null, .val (.ref s.heap.size)] [])) := c14.trans (st15 _ (Steps.refl _))
  have ap := apart (Or.inr ⟨_, (wk W (.laysFinal "java/lang/String" "java/lang/String" "value" "[B"))⟩) (Or.inr ⟨_, (wk W (.laysFinal "java/lang/String" "java/lang/String" "coder" "B"))⟩) f1 f2 (t₁ := .array .byte) (t₂ := .byte) (by decide +kernel) (by decide +kernel) (by decide)
  have al := X8.warmed.alike.symm.trans X15.warmed.alike
  have n7 : T11.heap[s.heap.size]? = some N := by rw [q11]; exact n1.1
  exact ⟨T15, none, _, _, _, X15, by simp, rfl, by omega, (fun _ => rfl), ⟨rfl, _, N, bl15, ((Same.refl D _).set _ (by simp)).set _ (by simp), sl15, (Cell.slots_setSlot_ne _ ap).trans sl13, n1.keep al (p15.other hne (p13.other hne n7)), n2, by rw [al.findClass]; exact n3, n4, n5, fun y c h1 h2 => p15.other h1 (p13.other h1 (by rw [q11]; exact n6 y c h2)), by rw [p15.2.2, p13.2.2, q11]; exact z8⟩, fun fs hl => c16.trans (X15.returnOut hexec hret (hb hbytes d57) hl)⟩
end New4
namespace New1
def yN : MethodName := ⟨"java/lang/String", "<init>", "([C)V"⟩
abbrev yB : ByteArray := jdk_42_method_3_code
theorem d0 : decode yB 0 = .ok (.aload_n 0, 1) := by decide +kernel
theorem d1 : decode yB 1 = .ok (.aload_n 1, 1) := by decide +kernel
theorem d2 : decode yB 2 = .ok (.iconst 0, 1) := by decide +kernel
theorem d3 : decode yB 3 = .ok (.aload_n 1, 1) := by decide +kernel
theorem d4 : decode yB 4 = .ok (.arraylength, 1) := by decide +kernel
theorem d5 : decode yB 5 = .ok (.aconst_null, 1) := by decide +kernel
theorem d6 : decode yB 6 = .ok (.invokespecial 27, 3) := by decide +kernel
theorem d9 : decode yB 9 = .ok (.return_, 1) := by decide +kernel
def site : List Cond := [New4.tab] ++ initW "java/lang/String" 27 New4.yN
def tab : Cond := tabOf yN yB 2 none site
def P (a : Addr) (D : Cell) (fV fC : Field) (b : Addr) (A : Cell) (z : Int32) (args : Array Value) (s : State) : Prop := args = #[.ref a, .ref b] ∧ Blank "java/lang/String" a D s ∧ Found "java/lang/String" "value" "[B" fV s ∧ Found "java/lang/String" "coder" "B" fC s ∧ Ch b A s ∧ StaticIs s "java/lang/String" "COMPACT_STRINGS" "Z" (.int z) ∧ ¬ z = 0 ∧ 0 < A.slots.size ∧ A.slots.size ≤ 536870912 ∧ ∀ i, i < A.slots.size → ¬ 255 < cv A i
def E (a : Addr) (D : Cell) (fV fC : Field) (A : Cell) (r : Option Value) (s u : State) : Prop := Got a D fV fC A 0 A.slots.size r s u
/-- new String(chars), not empty, no char above 255: a Latin-1 String of their low bytes -/
theorem law (l : Launch) (a : Addr) (D : Cell) (fV fC : Field) (b : Addr) (A : Cell) (z : Int32) : Law l yN 2 1 3 52 yB 2 none site (P a D fV fC b A z) (E a D fV fC A) [⟨a, fC.slot⟩, ⟨a, fV.slot⟩] 1 A.slots.size := by
  refine Law.of_walk (plainFor_of_name (by decide +kernel)) (by decide +kernel) (by decide +kernel) (by decide) (fun _ _ h => by rw [h.1]; rfl) (fun _ U U' hal hh h => ⟨h.1, h.2.1.mv hal hh, h.2.2.1.al hal, h.2.2.2.1.al hal, h.2.2.2.2.1.mv hal hh, h.2.2.2.2.2.1.there hal hh, h.2.2.2.2.2.2⟩) (fun r U U' V V' h1 hal h2 h => Got.mv r U U' V V' h1 hal h2 h) ?_
  intro p e s m args below meth c s₁ X0 hexec hbytes hml hret hlk hnm hown hh0 W hP
  obtain ⟨rfl, hB, f1, f2, hA, s1, hz, l0, l2, hp⟩ := hP
  have c1 : Steps p.tables e below (s₁.setTop (entryFrame m #[.ref a, .ref b] 2)) (s₁.setTop (mkF m 0 #[.val (.ref a), .val (.ref b)] [])) := entry rfl
  have c2 : Steps p.tables e below (s₁.setTop (entryFrame m #[.ref a, .ref b] 2)) (s₁.setTop (mkF m 6 #[.val (.ref a), .val (.ref b)] [.null, .int (Int32.ofNat A.slots.size), .int 0, .ref b, .ref a])) := c1.trans (by
    refine XS.aloadN X0.here hexec rfl (hb hbytes d0) rfl rfl ?_
    refine XS.aloadN X0.here hexec rfl (hb hbytes d1) rfl rfl ?_
    refine iconstV X0.here hexec rfl 0 (hb hbytes d2) (by decide) ?_
    refine XS.aloadN X0.here hexec rfl (hb hbytes d3) rfl rfl ?_
    refine X0.alen hexec (hA.1.mv X0.warmed.alike hh0) rfl rfl (hb hbytes d4) ?_
    refine XS.aconstNull X0.here hexec rfl (hb hbytes d5) ?_
    exact Steps.refl _)
  obtain ⟨v3, T3, X3, E3, g3⟩ := X0.callN hexec (New4.law l a D fV fC b A z 0 A.slots.size) rfl hown (wks W (initW "java/lang/String" 27 New4.yN)) (W New4.tab (by simp only [site, List.mem_cons, List.mem_append, true_or, or_true])) (W := 0) (Nat.le_of_ble_eq_true rfl) (Nat.le_of_ble_eq_true rfl) (Nat.le_refl _) (by show 0 + A.slots.size ≤ A.slots.size; omega) (g := (mkF m 6 #[.val (.ref a), .val (.ref b)] [.null, .int (Int32.ofNat A.slots.size), .int (Int32.ofNat 0), .ref b, .ref a])) rfl (by rw [hml]; rfl) c2 (argsL := [.ref b, .int (Int32.ofNat 0), .int (Int32.ofNat A.slots.size), .null]) (rest := []) rfl rfl (by show 2 * 0 + 0 ≤ _; decide) (hb hbytes d6) (⟨rfl, hB.mv X0.warmed.alike hh0, f1.al X0.warmed.alike, f2.al X0.warmed.alike, hA.mv X0.warmed.alike hh0, s1.there X0.warmed.alike hh0, hz, l0, by omega, l2, fun i hi => by rw [Nat.zero_add]; exact hp i hi⟩)
  have e0 := Got.mv _ s₁ s _ _ hh0.symm (Vm.Alike.refl _) rfl E3
  obtain rfl := e0.1
  have c4 : Steps p.tables e below (s₁.setTop (entryFrame m #[.ref a, .ref b] 2)) (T3.setTop (mkF m 9 #[.val (.ref a), .val (.ref b)] [])) := g3
  exact ⟨T3, none, _, _, _, X3, by simp, rfl, by omega, (fun _ => rfl), e0, fun fs hl => c4.trans (X3.returnOut hexec hret (hb hbytes d9) hl)⟩
theorem pays {l : Launch} {R : Room} {p : Program} {e : Env} {below : List Frame} {s : State} {sargs : Array Value} {len W : Nat} (a : Addr) (D : Cell) (fV fC : Field) (b : Addr) (A : Cell) (z : Int32) (htab : tab.before sargs s = true) (hfr : 4 ≤ R.frames) (hlo : W + 65 ≤ R.locals) :
    Back l R p e below s sargs yN len W (fun A₁ a₁ => A₁.cells + 1 ≤ R.cells ∧ A₁.slots + A.slots.size ≤ R.slots ∧ P a D fV fC b A z a₁ A₁.U) (fun A₁ _ v₁ B₁ => E a D fV fC A v₁ A₁.U B₁.U ∧ B₁.locs = A₁.locs ++ [⟨a, fC.slot⟩, ⟨a, fV.slot⟩] ∧ B₁.cells = A₁.cells + 1 ∧ B₁.slots = A₁.slots + A.slots.size) :=
  (law l a D fV fC b A z).pays htab hfr (by omega)
end New1
end StrChars
namespace StrChars.Road
open Jvm Sem ClassFile Op Lib Jvm.Stand Jvm.Free Jvm.Free.XT
open Jvm.Lib.Cold (StaticIs)
abbrev ST : String := "java/lang/String"
/-- every table word that New1's law asks, flat -/
abbrev words : List Jvm.Cond := [.code New1.yN New1.yB 2 none, .initialized ST, .methodLink ST 27 New4.yN, .instanceMethod New4.yN,
  .code New4.yN New4.yB 6 none, .fieldLink ST 38 ST "COMPACT_STRINGS" "Z", .laysFinal ST ST "value" "[B", .fieldLink ST 9 ST "value" "[B", .laysFinal ST ST "coder" "B", .fieldLink ST 15 ST "coder" "B",
  .methodLink ST 1 Lib.objectInit, .instanceMethod Lib.objectInit, .code Lib.objectInit ⟨#[0xb1]⟩ 1 none, .methodLink ST 177 Cmp3.yN, .static Cmp3.yN, .methodLink ST 47 CodL.yN, .static CodL.yN,
  .code Cmp3.yN Cmp3.yB 6 (some (.array .byte)), .initialized U16, .arrayClass .byte, .methodLink U16 115 Cmp5.yN, .static Cmp5.yN, .code Cmp5.yN Cmp5.yB 7 (some .int), .code CodL.yN CodL.yB 2 (some .byte)]
theorem tab_of {a : Array Value} {s : State} (h : ∀ w ∈ words, w.before a s = true) : New1.tab.before a s = true := by
  have h5 : Cmp5.tab.before a s = true := unparts (wk h (.code Cmp5.yN Cmp5.yB 7 (some .int))) (wks h (.initialized Cmp5.yN.cls :: Cmp5.site))
  have hc : CodL.tab.before a s = true := unparts (wk h (.code CodL.yN CodL.yB 2 (some .byte))) (wks h (.initialized CodL.yN.cls :: CodL.site))
  have q5 : ∀ w ∈ Cmp5.tab :: words, w.before a s = true := fun w hw => (List.mem_cons.mp hw).elim (fun e => e ▸ h5) (h w)
  have h3 : Cmp3.tab.before a s = true := unparts (wk q5 (.code Cmp3.yN Cmp3.yB 6 (some (.array .byte)))) (wks q5 (.initialized Cmp3.yN.cls :: Cmp3.site))
  have q3 : ∀ w ∈ Cmp3.tab :: CodL.tab :: words, w.before a s = true := fun w hw => (List.mem_cons.mp hw).elim (fun e => e ▸ h3) fun hw => (List.mem_cons.mp hw).elim (fun e => e ▸ hc) (h w)
  have h4 : New4.tab.before a s = true := unparts (wk q3 (.code New4.yN New4.yB 6 none)) (wks q3 (.initialized New4.yN.cls :: New4.site))
  have q4 : ∀ w ∈ New4.tab :: words, w.before a s = true := fun w hw => (List.mem_cons.mp hw).elim (fun e => e ▸ h4) (h w)
  exact unparts (wk q4 (.code New1.yN New1.yB 2 none)) (wks q4 (.initialized New1.yN.cls :: New1.site))
/-- the words ride from the start Z to the walk's own state -/
theorem moved {Z s : State} {a0 args : Array Value} (hZ : Z.Warmed39 s.vm) (hw : ∀ d ∈ words, d.before a0 Z = true) : ∀ d ∈ words, d.before args s = true := fun d hd => by
  have q := hw d hd
  have t : ∀ d ∈ words, d = .arrayClass .byte ∨ (d.onTables && d.keepsFace) = true := by decide +kernel
  rcases t d hd with rfl | t
  · exact RoadKit.mvA hZ q
  · exact RoadKit.mv hZ q t
/-- WHAT COMES BACK, over the tables of the start Z: h the heap at the call, h' behind it -/
def Q (Z : State) (x : Addr) (A : Cell) (h : Heap) (v : Option Value) (h' : Heap) (L : List Loc) : Prop := v = none ∧ (∀ y ∈ L, y.base = x) ∧ RoadKit.Keep h h' [x] ∧ h'.size = h.size + 1 ∧ RoadKit.Exa Z h' x ST ∧ RoadKit.Fld Z h' x ST "value" "[B" (.ref h.size) ∧ RoadKit.Fld Z h' x ST "coder" "B" (.int 0) ∧
  (∃ V : Cell, RoadKit.Arr Z h' h.size V .byte ∧ V.vm = .none ∧ Z.vm.findClass "[B" = some V.cls ∧ V.slots.size = A.slots.size ∧ ∀ j, j < A.slots.size → V.slots[j]? = some (.int (lo8 (cv A j)))) ∧
  ∀ (O n d : String) (w : Value), RoadKit.Fld Z h x O n d w → RoadKit.slotOf Z O n d ≠ RoadKit.slotOf Z ST "value" "[B" → RoadKit.slotOf Z O n d ≠ RoadKit.slotOf Z ST "coder" "B" → RoadKit.Fld Z h' x O n d w
/-- **new String(chars) AT A CALL, IN THE ROAD'S FORM**: for specialBack behind newO: x the fresh String, b the char[] with the cell A -/
theorem back {p : Program} {l : Launch} {e : Env} {R : Room} {s : State} {args : Array Value} {below : List Frame} {len W : Nat} {Z : State} {a0 : Array Value} {h : Heap} (hZ : Z.Warmed39 s.vm) (hw : ∀ d ∈ words, d.before a0 Z = true) {kI : Nat} (wi : (Jvm.Cond.instantiable ST kI).before a0 Z = true)
    {x b : Addr} {A : Cell} {z : Int32} {v0 c0 : Value} (E : RoadKit.Exa Z h x ST) (V : RoadKit.Fld Z h x ST "value" "[B" v0) (C : RoadKit.Fld Z h x ST "coder" "B" c0) (K : RoadKit.Arr Z h b A .char) (hty : Typed .char A) (S : RoadKit.Sta Z h ST "COMPACT_STRINGS" "Z" (.int z)) (hz : ¬ z = 0)
    (l0 : 0 < A.slots.size) (l2 : A.slots.size ≤ 536870912) (hp : ∀ i, i < A.slots.size → ¬ 255 < cv A i) (hfr : 4 ≤ R.frames) (hlo : W + 65 ≤ R.locals) :
    Back l R p e below s args New1.yN len W (fun P a => a = #[.ref x, .ref b] ∧ P.U.heap = h ∧ P.cells + 1 ≤ R.cells ∧ P.slots + A.slots.size ≤ R.slots)
      (fun P _ v B => ∃ L, Q Z x A h v B.U.heap L ∧ B.locs = P.locs ++ L ∧ B.cells = P.cells + 1 ∧ B.slots = P.slots + A.slots.size) := by
  intro m meth c P g ig mk a X hg hsize hdg hW hn hp'
  obtain ⟨rfl, rfl, r1, r2⟩ := hp'
  have al : Z.vm.Alike P.U.vm := hZ.alike.trans X.warmed.alike
  obtain ⟨D, cfV, kV, iV, fV, hD, gV, stV, knV, obV, asV, slV⟩ := id V
  obtain ⟨D', cfC, kC, iC, fC, hD', gC, stC, -, -, asC, slC⟩ := id C
  cases hD.symm.trans hD'
  obtain ⟨D2, kD, e1, e2, e3, e4, e5⟩ := id E
  cases hD.symm.trans e1
  obtain ⟨c2, k2, i1, i2, i3, -⟩ := Cond.instantiable_spec wi
  cases e2.symm.trans i1
  cases e3.symm.trans i2
  obtain ⟨kU, u1, u2⟩ := al.2.2 _ _ e3
  have hB : Blank ST x D P.U := ⟨hD, ⟨knV, fun q hq => by rw [hq] at obV; cases obV⟩, by rw [al.findClass]; exact e2, kU, u1, by rw [u2]; exact i3, by rw [u2]; exact e5 i3⟩
  have F1 : Found ST "value" "[B" fV P.U := ⟨SBG.found_only al ⟨cfV, kV, iV, gV⟩, stV⟩
  have F2 : Found ST "coder" "B" fC P.U := ⟨SBG.found_only al ⟨cfC, kC, iC, gC⟩, stC⟩
  have hA : Ch b A P.U := ⟨⟨K.1, State.isArrayOf_alike al K.2.1, K.2.2, by omega⟩, hty⟩
  have hS : StaticIs P.U ST "COMPACT_STRINGS" "Z" (.int z) := by
    obtain ⟨cfS, iS, kS, fS, st, cS, t1, t2, t3, t4, t5, t6, t7⟩ := S
    exact StaticIs.there (s := { Z with heap := P.U.heap }) ⟨cfS, iS, kS, fS, st, cS, t1, t2, t3, t4, t5, (fun q => by rw [q] at t6; cases t6), t7⟩ al rfl
  obtain ⟨v, B, X', ⟨⟨hv, E', V', q1, q2, q3, q4, q5, q6, q7, q8, q9, q10, q11⟩, hl, hc, hs⟩, st⟩ := New1.pays x D fV fC b A z (tab_of (moved hZ hw)) hfr hlo m meth c P g ig mk _ X hg hsize hdg hW hn ⟨r1, r2, rfl, hB, F1, F2, hA, hS, hz, l0, l2, hp⟩
  have al' : Z.vm.Alike B.U.vm := hZ.alike.trans X'.warmed.alike
  have hsz : E'.slots.size = D.slots.size := by
    obtain ⟨-, -, -, kB, w1, w2, w3⟩ := q1
    obtain ⟨kB', y1, y2⟩ := al'.2.2 _ _ e3
    rw [q2.2.1] at w1
    cases w1.symm.trans y1
    rw [w3, e5 i3, y2]
  refine ⟨v, B, X', ⟨_, ⟨hv, ?_, ⟨by omega, fun y cy hy hn' => q10 y cy (by simpa using hn') hy, fun y cy hy => ?_⟩, q11, ⟨E', _, q1.1, by rw [q2.2.1]; exact e2, by rw [q2.2.1]; exact e3, by rw [q2.1]; exact obV, fun _ => by rw [hsz]; exact e5 i3⟩,
    ⟨E', cfV, kV, iV, fV, q1.1, gV, stV, by rw [q2.1]; exact knV, by rw [q2.1]; exact obV, by rw [q2.2.1]; exact asV, q3⟩, ⟨E', cfC, kC, iC, fC, q1.1, gC, stC, by rw [q2.1]; exact knV, by rw [q2.1]; exact obV, by rw [q2.2.1]; exact asC, q4⟩,
    ⟨V', ⟨q5.1, State.isArrayOf_alike al'.symm q5.2.1, q5.2.2.1⟩, q6, by rw [← al'.findClass]; exact q7, q8, fun j hj => by have := q9 j hj; rwa [Nat.zero_add] at this⟩, fun O n d w F n1 n2 => ?_⟩, hl, hc, hs⟩, st⟩
  · intro y hy
    simp only [List.mem_cons, List.not_mem_nil, or_false] at hy
    rcases hy with rfl | rfl <;> rfl
  · by_cases q : y = x
    · subst q
      cases hD.symm.trans hy
      exact ⟨E', q1.1, q2.2.1, q2.1, hsz⟩
    · exact ⟨cy, q10 y cy q hy, rfl, rfl, rfl⟩
  · obtain ⟨D3, cf, k, i, f, g1, g2, g3, g4, g5, g6, g7⟩ := F
    cases hD.symm.trans g1
    simp only [RoadKit.slotOf, g2, gV, gC, Option.map_some, Option.getD_some] at n1 n2
    exact ⟨E', cf, k, i, f, q1.1, g2, g3, by rw [q2.1]; exact g4, by rw [q2.1]; exact g5, by rw [q2.2.1]; exact g6, by rw [q2.2.2 f.slot (by simp [n1, n2])]; exact g7⟩
end StrChars.Road
namespace StrChars.Road
open Jvm Sem ClassFile Op Lib Jvm.Stand Jvm.Free Jvm.Free.XT
/-- WHAT COMES BACK, the byte[] as a list of values -/
def QA (Z : State) (x : Addr) (zn : Int32) (cs : List Int32) (h : Heap) (v : Option Value) (h' : Heap) (L : List Loc) : Prop := v = none ∧ (∀ y ∈ L, y.base = x) ∧ RoadKit.Keep h h' [x] ∧ h'.size = h.size + 1 ∧ RoadKit.Exa Z h' x ST ∧ RoadKit.Fld Z h' x ST "value" "[B" (.ref h.size) ∧ RoadKit.Fld Z h' x ST "coder" "B" (.int 0) ∧
  (∃ kb, Z.vm.findClass "[B" = some kb ∧ RoadKit.Arv Z h' h.size kb .byte zn (cs.map fun c => .int (lo8 c)) (.int 0)) ∧
  ∀ (O n d : String) (w : Value), RoadKit.Fld Z h x O n d w → RoadKit.slotOf Z O n d ≠ RoadKit.slotOf Z ST "value" "[B" → RoadKit.slotOf Z O n d ≠ RoadKit.slotOf Z ST "coder" "B" → RoadKit.Fld Z h' x O n d w
/-- **new String(chars) AT A CALL, THE ARRAYS AS LISTS**: the char[] at b holds cs, not empty, no char above 255 -/
theorem backArv {p : Program} {l : Launch} {e : Env} {R : Room} {s : State} {args : Array Value} {below : List Frame} {len W : Nat} {Z : State} {a0 : Array Value} {h : Heap} (hZ : Z.Warmed39 s.vm) (hw : ∀ d ∈ words, d.before a0 Z = true) {kI : Nat} (wi : (Jvm.Cond.instantiable ST kI).before a0 Z = true)
    {x b : Addr} {k : ClassId} {zn z : Int32} {cs : List Int32} {dv v0 c0 : Value} (E : RoadKit.Exa Z h x ST) (V : RoadKit.Fld Z h x ST "value" "[B" v0) (C : RoadKit.Fld Z h x ST "coder" "B" c0) (K : RoadKit.Arv Z h b k .char zn (cs.map Value.int) dv) (S : RoadKit.Sta Z h ST "COMPACT_STRINGS" "Z" (.int z)) (hz : ¬ z = 0)
    (hlen : zn.toNatClampNeg = cs.length) (h0 : 0 < cs.length) (hbig : cs.length ≤ 536870912) (hall : ∀ c ∈ cs, ¬ 255 < c) (hfr : 4 ≤ R.frames) (hlo : W + 65 ≤ R.locals) :
    Back l R p e below s args New1.yN len W (fun P a => a = #[.ref x, .ref b] ∧ P.U.heap = h ∧ P.cells + 1 ≤ R.cells ∧ P.slots + cs.length ≤ R.slots)
      (fun P _ v B => ∃ L, QA Z x zn cs h v B.U.heap L ∧ B.locs = P.locs ++ L ∧ B.cells = P.cells + 1 ∧ B.slots = P.slots + cs.length) := by
  obtain ⟨A, K1, K2, K3, K4, K5, K6⟩ := K
  have e : A.slots.size = cs.length := K3.trans hlen
  have hat : ∀ (i : Nat) (hi : i < cs.length), A.slots[i]? = some (.int cs[i]) := fun i hi => by rw [K5 i (by omega)]; simp [List.getD_eq_getElem?_getD, hi]
  have hcv : ∀ (i : Nat) (hi : i < cs.length), cv A i = cs[i] := fun i hi => by unfold cv; rw [hat i hi]
  have hty : Typed .char A := fun i v hv => by
    have hi : i < A.slots.size := (Array.getElem?_eq_some_iff.mp hv).1
    have q := K5 i hi
    rw [hv] at q
    rw [Option.some.inj q]
    exact K6 i hi
  refine Back.mono (back hZ hw wi E V C K1 hty S hz (by omega) (by omega) (fun i hi => by rw [hcv i (by omega)]; exact hall _ (List.getElem_mem _)) hfr hlo) (fun P a hp => ⟨hp.1, hp.2.1, hp.2.2.1, by rw [e]; exact hp.2.2.2⟩) (fun P a v B hp hq => ?_)
  obtain ⟨L, ⟨q1, q2, q3, q4, q5, q6, q7, ⟨V', v1, v2, v3, v4, v5⟩, q9⟩, hl, hc, hs⟩ := hq
  refine ⟨L, ⟨q1, q2, q3, q4, q5, q6, q7, ⟨V'.cls, v3, V', v1, rfl, by rw [v4, e, hlen], K4, fun i hi => ?_, fun i hi => ?_⟩, q9⟩, hl, hc, by rw [hs, e]⟩
  · have hi' : i < cs.length := by omega
    rw [v5 i (by omega), hcv i hi']; simp [List.getD_eq_getElem?_getD, hi']
  · have hi' : i < cs.length := by omega
    simp only [List.getD_eq_getElem?_getD, List.getElem?_map, List.getElem?_eq_getElem hi', Option.map_some, Option.getD_some]
    exact fits_lo8 _
end StrChars.Road
namespace StrChars.Road
open Jvm Sem ClassFile Op Lib Jvm.Stand Jvm.Free Jvm.Free.XT
/-- WHAT COMES BACK, in the writer's own shape -/
def QV (Z : State) (x : Addr) (N : Int32) (bs : List Int32) (h : Heap) (n0 : Nat) (v : Option Value) (h' : Heap) (L : List Loc) : Prop := v = none ∧ RoadKit.Fr n0 L ∧ RoadKit.Keep h h' [x] ∧ RoadKit.Exa Z h' x ST ∧ RoadKit.Fld Z h' x ST "coder" "B" (.int 0) ∧
  ∃ (t : Addr) (kb : ClassId), n0 ≤ t ∧ h.size ≤ t ∧ ¬ t = x ∧ RoadKit.Fld Z h' x ST "value" "[B" (.ref t) ∧ RoadKit.Arv Z h' t kb .byte N (bs.map Value.int) (.int 0)
/-- **new String(chars) AT A CALL, FOR THE WRITER**: a char[] of n known ints, each 0 to 255 -/
theorem backV {p : Program} {l : Launch} {e : Env} {R : Room} {s : State} {args : Array Value} {below : List Frame} {len W : Nat} {Z : State} {a0 : Array Value} {h : Heap} (hZ : Z.Warmed39 s.vm) (hw : ∀ d ∈ words, d.before a0 Z = true) {kI : Nat} (wi : (Jvm.Cond.instantiable ST kI).before a0 Z = true)
    {x b : Addr} {kC : ClassId} {cs bs : List Int32} {d v0 c0 : Value} {z N : Int32} {n n0 : Nat} (hx0 : n0 ≤ x) (hh0 : n0 ≤ h.size) (E : RoadKit.Exa Z h x ST) (V : RoadKit.Fld Z h x ST "value" "[B" v0) (C : RoadKit.Fld Z h x ST "coder" "B" c0) (K : RoadKit.Arv Z h b kC .char N (cs.map Value.int) d) (S : RoadKit.Sta Z h ST "COMPACT_STRINGS" "Z" (.int z)) (hz : ¬ z = 0)
    (hn : cs.length = n) (hN : N = Int32.ofNat n) (l0 : 0 < n) (l2 : n ≤ 4000) (hp : ∀ c ∈ cs, ¬ c < 0 ∧ ¬ (255 : Int32) < c) (hb : bs = cs.map (fun c => c.toInt8.toInt32)) (hfr : 4 ≤ R.frames) (hlo : W + 65 ≤ R.locals) :
    Back l R p e below s args (⟨"java/lang/String", "<init>", "([C)V"⟩ : MethodName) len W (fun P a => a = #[.ref x, .ref b] ∧ P.U.heap = h ∧ P.cells + 1 ≤ R.cells ∧ P.slots + n ≤ R.slots)
      (fun P _ v B => ∃ L, QV Z x N bs h n0 v B.U.heap L ∧ B.locs = P.locs ++ L ∧ B.cells = P.cells + 1 ∧ B.slots = P.slots + n) := by
  subst hn hN hb
  refine Back.mono (backArv hZ hw wi E V C K S hz (n32 (by omega)) l0 (by omega) (fun c hc => (hp c hc).2) hfr hlo) (fun P a hp => hp) (fun P a v B hp hq => ?_)
  obtain ⟨L, ⟨q1, q2, q3, q4, q5, q6, q7, ⟨kb, v1, v2⟩, q9⟩, hl, hc, hs⟩ := hq
  exact ⟨L, ⟨q1, fun y hy => by rw [q2 y hy]; exact hx0, q3, q5, q7, h.size, kb, hh0, Nat.le_refl _, Nat.ne_of_gt E.lt, q6, by rw [List.map_map]; exact v2⟩, hl, hc, hs⟩
end StrChars.Road
end Jvm.Pilot.@@N@@
namespace Jvm.Pilot.@@N@@
open Jvm Jvm.ClassFile Sem Op Lib Jvm.Free Jvm.Stand Jvm.LawKit Jvm.RoadKit Bundle Jvm.Pilot.@@N@@.Jvm.D
def Go (p : Program) (e : Env) (below : List Frame) (s : State) (Q : Option Value → Heap → List Loc → Prop) (rc rs : Nat) (S : State) : Prop :=
  ∃ s₂ o, Steps p.tables e below S s₂ ∧ s₂.status = .running ∧ Ended s₂ below o ∧ ∃ v L, o = .returned v ∧ Q v s₂.heap L ∧ FrameEnd s o s₂ L rc rs
section OwnGo
variable {p : Program} {l : Launch} {e : Env} {R : Room} {s : State} {m : MethodId} {args : Array Value} {below : List Frame} {meth : Method} {c : Code} {T : State} {locs : List Loc} {cells slots : Nat} {Q : Option Value → Heap → List Loc → Prop} {rc rs : Nat}
theorem Go.via {S S' : State} (h : ∀ t, Steps p.tables e below S' t → Steps p.tables e below S t) (g : Go p e below s Q rc rs S') : Go p e below s Q rc rs S :=
  let ⟨s₂, o, a, b⟩ := g; ⟨s₂, o, h _ a, b⟩
theorem Go.retI (X : Stand p l e R s m args below meth c T locs cells slots) (hx : p.tables.exec = Jvm.exec) (hlk : meth.locks = false) {pc : Nat} {Ls : Array Slot} {z : Int32} {rest : List Value} (hret : meth.sig.returnType = some .int) (hd : decode c.code pc = .ok (.ireturn, 1))
    (hq : Q (some (.int z)) T.heap locs) (hc : cells ≤ rc) (hs : slots ≤ rs) : Go p e below s Q rc rs (T.setTop (mkF m pc Ls (.int z :: rest))) := by
  obtain ⟨fs, hr, hrun, hended, hW, hsame⟩ := X.leave (v := some (.int z)) (fun h => by rw [hret] at h; cases h)
  exact ⟨_, _, retOut X hx hret rfl (Or.inl ⟨rfl, Or.inl rfl, _, rfl⟩) hd hr, hrun, hended, _, _, rfl, hq, ⟨_, rfl⟩, hW, hsame.mono hc hs⟩
theorem Go.retB (X : Stand p l e R s m args below meth c T locs cells slots) (hx : p.tables.exec = Jvm.exec) (hlk : meth.locks = false) {pc : Nat} {Ls : Array Slot} {z : Int32} {rest : List Value} (hret : meth.sig.returnType = some .boolean) (hd : decode c.code pc = .ok (.ireturn, 1)) (hz : narrow .boolean (.int z) = .int z)
    (hq : Q (some (.int z)) T.heap locs) (hc : cells ≤ rc) (hs : slots ≤ rs) : Go p e below s Q rc rs (T.setTop (mkF m pc Ls (.int z :: rest))) := by
  obtain ⟨fs, hr, hrun, hended, hW, hsame⟩ := X.leave (v := some (.int z)) (fun h => by rw [hret] at h; cases h)
  exact ⟨_, _, retOut X hx hret hz (Or.inl ⟨rfl, Or.inr (Or.inl rfl), _, rfl⟩) hd hr, hrun, hended, _, _, rfl, hq, ⟨_, rfl⟩, hW, hsame.mono hc hs⟩
theorem Go.retC (X : Stand p l e R s m args below meth c T locs cells slots) (hx : p.tables.exec = Jvm.exec) (hlk : meth.locks = false) {pc : Nat} {Ls : Array Slot} {z : Int32} {rest : List Value} (hret : meth.sig.returnType = some .char) (hd : decode c.code pc = .ok (.ireturn, 1)) (hz : narrow .char (.int z) = .int z)
    (hq : Q (some (.int z)) T.heap locs) (hc : cells ≤ rc) (hs : slots ≤ rs) : Go p e below s Q rc rs (T.setTop (mkF m pc Ls (.int z :: rest))) := by
  obtain ⟨fs, hr, hrun, hended, hW, hsame⟩ := X.leave (v := some (.int z)) (fun h => by rw [hret] at h; cases h)
  exact ⟨_, _, retOut X hx hret hz (Or.inl ⟨rfl, Or.inr (Or.inr (Or.inr (Or.inl rfl))), _, rfl⟩) hd hr, hrun, hended, _, _, rfl, hq, ⟨_, rfl⟩, hW, hsame.mono hc hs⟩
theorem Go.retY (X : Stand p l e R s m args below meth c T locs cells slots) (hx : p.tables.exec = Jvm.exec) (hlk : meth.locks = false) {pc : Nat} {Ls : Array Slot} {z : Int32} {rest : List Value} (hret : meth.sig.returnType = some .byte) (hd : decode c.code pc = .ok (.ireturn, 1)) (hz : narrow .byte (.int z) = .int z)
    (hq : Q (some (.int z)) T.heap locs) (hc : cells ≤ rc) (hs : slots ≤ rs) : Go p e below s Q rc rs (T.setTop (mkF m pc Ls (.int z :: rest))) := by
  obtain ⟨fs, hr, hrun, hended, hW, hsame⟩ := X.leave (v := some (.int z)) (fun h => by rw [hret] at h; cases h)
  exact ⟨_, _, retOut X hx hret hz (Or.inl ⟨rfl, Or.inr (Or.inr (Or.inl rfl)), _, rfl⟩) hd hr, hrun, hended, _, _, rfl, hq, ⟨_, rfl⟩, hW, hsame.mono hc hs⟩
theorem Go.retJ (X : Stand p l e R s m args below meth c T locs cells slots) (hx : p.tables.exec = Jvm.exec) (hlk : meth.locks = false) {pc : Nat} {Ls : Array Slot} {z : Int64} {rest : List Value} (hret : meth.sig.returnType = some .long) (hd : decode c.code pc = .ok (.lreturn, 1))
    (hq : Q (some (.long z)) T.heap locs) (hc : cells ≤ rc) (hs : slots ≤ rs) : Go p e below s Q rc rs (T.setTop (mkF m pc Ls (.long z :: rest))) := by
  obtain ⟨fs, hr, hrun, hended, hW, hsame⟩ := X.leave (v := some (.long z)) (fun h => by rw [hret] at h; cases h)
  exact ⟨_, _, retOut X hx hret rfl (Or.inr (Or.inl ⟨rfl, rfl, _, rfl⟩)) hd hr, hrun, hended, _, _, rfl, hq, ⟨_, rfl⟩, hW, hsame.mono hc hs⟩
theorem Go.retA (X : Stand p l e R s m args below meth c T locs cells slots) (hx : p.tables.exec = Jvm.exec) (hlk : meth.locks = false) {pc : Nat} {Ls : Array Slot} {z : Value} {rest : List Value} {t : FieldType} (hret : meth.sig.returnType = some t) (ht : t.isReference = true) (hz : z.isRef = true) (hn : narrow t z = z) (hd : decode c.code pc = .ok (.areturn, 1))
    (hq : Q (some z) T.heap locs) (hc : cells ≤ rc) (hs : slots ≤ rs) : Go p e below s Q rc rs (T.setTop (mkF m pc Ls (z :: rest))) := by
  obtain ⟨fs, hr, hrun, hended, hW, hsame⟩ := X.leave (v := some z) (fun h => by rw [hret] at h; cases h)
  exact ⟨_, _, retOut X hx hret hn (Or.inr (Or.inr (Or.inr (Or.inr ⟨rfl, ht, hz⟩)))) hd hr, hrun, hended, _, _, rfl, hq, ⟨_, rfl⟩, hW, hsame.mono hc hs⟩
theorem Go.retV (X : Stand p l e R s m args below meth c T locs cells slots) (hx : p.tables.exec = Jvm.exec) (hlk : meth.locks = false) {pc : Nat} {Ls : Array Slot} (hret : meth.sig.returnType = none) (hd : decode c.code pc = .ok (.return_, 1))
    (hq : Q none T.heap locs) (hc : cells ≤ rc) (hs : slots ≤ rs) : Go p e below s Q rc rs (T.setTop (mkF m pc Ls [])) := by
  obtain ⟨fs, hr, hrun, hended, hW, hsame⟩ := X.leave (v := none) (fun _ => rfl)
  exact ⟨_, _, X.returnOut hx hret hd hr, hrun, hended, _, _, rfl, hq, ⟨_, rfl⟩, hW, hsame.mono hc hs⟩
def GoW (p : Program) (e : Env) (below : List Frame) (s : State) (Q : Option Value → Heap → List Loc → Prop) (rc rs : Nat) (S : State) : Prop :=
  ∃ s₂ o, Steps p.tables e below S s₂ ∧ s₂.status = .running ∧ Ended s₂ below o ∧ ∃ v L, o = .returned v ∧ Q v s₂.heap L ∧ ReturnedEndW s o s₂ L rc rs
theorem GoW.via {S S' : State} (h : ∀ t, Steps p.tables e below S' t → Steps p.tables e below S t) (g : GoW p e below s Q rc rs S') : GoW p e below s Q rc rs S :=
  let ⟨s₂, o, a, b⟩ := g; ⟨s₂, o, h _ a, b⟩
theorem GoW.retB {vm₁ : Vm} (X : Stand p l e R (s.setVm vm₁) m args below meth c T locs cells slots) (hx : p.tables.exec = Jvm.exec) (hlk : meth.locks = false) {n : Nat} (hS : s.Since vm₁ n) (hn : n ≤ T.heap.size) {pc : Nat} {Ls : Array Slot} {z : Int32} {rest : List Value} (hret : meth.sig.returnType = some .boolean) (hd : decode c.code pc = .ok (.ireturn, 1)) (hz : narrow .boolean (.int z) = .int z)
    (hq : Q (some (.int z)) T.heap locs) (hc : cells ≤ rc) (hs : slots ≤ rs) : GoW p e below s Q rc rs (T.setTop (mkF m pc Ls (.int z :: rest))) := by
  obtain ⟨fs, hr, hrun, hended, hE⟩ := X.leaveW hS hn (v := some (.int z)) (fun h => by rw [hret] at h; cases h)
  exact ⟨_, _, retOut X hx hret hz (Or.inl ⟨rfl, Or.inr (Or.inl rfl), _, rfl⟩) hd hr, hrun, hended, _, _, rfl, hq, hE.1, hE.2.1, hE.2.2.1, hE.2.2.2.mono hc hs⟩
theorem GoW.retA {vm₁ : Vm} (X : Stand p l e R (s.setVm vm₁) m args below meth c T locs cells slots) (hx : p.tables.exec = Jvm.exec) (hlk : meth.locks = false) {n : Nat} (hS : s.Since vm₁ n) (hn : n ≤ T.heap.size) {pc : Nat} {Ls : Array Slot} {z : Value} {rest : List Value} {t : FieldType} (hret : meth.sig.returnType = some t) (ht : t.isReference = true) (hz : z.isRef = true) (hnr : narrow t z = z) (hd : decode c.code pc = .ok (.areturn, 1))
    (hq : Q (some z) T.heap locs) (hc : cells ≤ rc) (hs : slots ≤ rs) : GoW p e below s Q rc rs (T.setTop (mkF m pc Ls (z :: rest))) := by
  obtain ⟨fs, hr, hrun, hended, hE⟩ := X.leaveW hS hn (v := some z) (fun h => by rw [hret] at h; cases h)
  exact ⟨_, _, retOut X hx hret hnr (Or.inr (Or.inr (Or.inr (Or.inr ⟨rfl, ht, hz⟩)))) hd hr, hrun, hended, _, _, rfl, hq, hE.1, hE.2.1, hE.2.2.1, hE.2.2.2.mono hc hs⟩
theorem GoW.retV {vm₁ : Vm} (X : Stand p l e R (s.setVm vm₁) m args below meth c T locs cells slots) (hx : p.tables.exec = Jvm.exec) (hlk : meth.locks = false) {n : Nat} (hS : s.Since vm₁ n) (hn : n ≤ T.heap.size) {pc : Nat} {Ls : Array Slot} (hret : meth.sig.returnType = none) (hd : decode c.code pc = .ok (.return_, 1))
    (hq : Q none T.heap locs) (hc : cells ≤ rc) (hs : slots ≤ rs) : GoW p e below s Q rc rs (T.setTop (mkF m pc Ls [])) := by
  obtain ⟨fs, hr, hrun, hended, hE⟩ := X.leaveW hS hn (v := none) (fun _ => rfl)
  exact ⟨_, _, X.returnOut hx hret hd hr, hrun, hended, _, _, rfl, hq, hE.1, hE.2.1, hE.2.2.1, hE.2.2.2.mono hc hs⟩
end OwnGo
theorem own_sel {s : State} {args : Array Value} {y : MethodName} {n : Nat} (wi : (Jvm.Cond.instantiable y.cls n).before args s = true) (hpriv : s.PrivateAt y) (hinst : (Jvm.Cond.instanceMethod y).before args s = true) (hy : y.cls ≠ "java/lang/invoke/MethodHandle" ∧ y.cls ≠ "java/lang/invoke/VarHandle") : (Jvm.Cond.selects y.cls y y).before args s = true := by
  obtain ⟨c, k, h1, h2, h3, h4, -⟩ := Cond.instantiable_spec wi
  have h5 : k.isInterface = false := by
    cases hq : k.isInterface
    · rfl
    · rw [hq] at h4; cases h4
  exact Jvm.Stand.selects_self_of_private h1 h2 h5 hpriv hinst hy
theorem own_lc1 {x y : Int64} (h : x < y) : lcmpW x y < 0 := (lw_lt x y).mpr h
theorem own_lc2 {x y : Int64} (h : ¬ x < y) : ¬ lcmpW x y < 0 := fun q => h ((lw_lt x y).mp q)
theorem own_lc3 {x y : Int64} (h : y < x) : 0 < lcmpW x y := (lw_gt x y).mpr h
theorem own_lc4 {x y : Int64} (h : ¬ y < x) : ¬ 0 < lcmpW x y := fun q => h ((lw_gt x y).mp q)
theorem own_lc5 {x y : Int64} (h : x = y) : lcmpW x y = 0 := (lw_eq x y).mpr h
theorem own_lc6 {x y : Int64} (h : ¬ x = y) : ¬ lcmpW x y = 0 := fun q => h ((lw_eq x y).mp q)
/-- backOfS, the callee told what the caller's tables hold interned -/
theorem own_backOfS {p : Program} {l : Launch} {e : Env} {R : Room} {s : State} {args : Array Value} {below : List Frame} {Z : State} {a0 : Array Value} {h : Heap} {y : MethodName} {bytes : ByteArray} {maxL : Nat} {ret : Option FieldType} {rm : Room} {len W : Nat} {as' : Array Value} {Q : Option Value → Heap → List Loc → Prop}
    (hM : MetFree l y (head1 [Cond.code y bytes maxL ret] rm) (fun a U => a = as' ∧ Z.Warmed39 U.vm ∧ U.heap = h ∧ U.vm.interned = Z.vm.interned) (fun _ _ _ _ _ => True) (fun _ U o U' => ∃ v L, o = .returned v ∧ Q v U'.heap L ∧ ReturnedEndW U o U' L rm.cells rm.slots))
    (hZ : Z.Warmed39 s.vm) (hI : s.vm.interned = Z.vm.interned) (wc : (Cond.code y bytes maxL ret).before a0 Z = true) (wz : (Cond.initialized y.cls).before a0 Z = true) (hf : rm.frames + 1 ≤ R.frames) (hl : W + (maxL + 11) + rm.locals ≤ R.locals) :
    BackS l R p e below s args y len W (fun A a => a = as' ∧ A.U.heap = h ∧ A.cells + rm.cells ≤ R.cells ∧ A.slots + rm.slots ≤ R.slots)
      (fun A _ v B => ∃ L, Q v B.U.heap L ∧ B.locs = A.locs ++ L ∧ B.cells = A.cells + rm.cells ∧ B.slots = A.slots + rm.slots) :=
  BackS.of_freeW (bytes := bytes) (maxL := maxL) (ret := ret) (E := fun _ _ o t L k n => k = rm.cells ∧ n = rm.slots ∧ ∃ v, o = .returned v ∧ Q v t.heap L) hM hf hl
    (fun m meth c A a Y hp => have hU : Z.Warmed39 A.U.vm := wtrans hZ Y.warmed
      ⟨by show (Cond.and _ .tt).before a A.U = true; rw [Cond.before_and, mv hU wc]; rfl, mv hU wc, mv hU wz, hp.2.2.1, hp.2.2.2⟩)
    (fun m meth c A a g mk Y hp => ⟨hp.1, wtrans hZ Y.warmed, hp.2.1, Y.warmed.interned_eq.trans hI⟩) (fun _ _ _ _ _ _ _ _ _ => trivial)
    (fun _ _ _ _ ⟨v, L, h1, h2, h3⟩ => ⟨L, _, _, h3, rfl, rfl, v, h1, h2⟩)
    (fun m meth c A a g mk v t L k n Y hp _ _ ⟨e1, e2, v', e3, e4⟩ => by cases e3; subst e1 e2; exact ⟨L, e4, rfl, rfl, rfl⟩)
theorem own_n2i {i : Nat} (h : i < 2 ^ 31) : (Int32.ofNat i).toInt = i := Int32.toInt_ofNat_small h
theorem own_ncl {i : Nat} (h : i < 2 ^ 31) : (Int32.ofNat i).toNatClampNeg = i := by
  show (Int32.ofNat i).toInt.toNat = i
  rw [own_n2i h]; rfl
theorem own_nn {i : Nat} (h : i < 2 ^ 31) : ¬ Int32.ofNat i < 0 := by
  rw [Int32.lt_iff_toInt_lt, own_n2i h]
  show ¬ ((i : Int) < 0)
  omega
theorem own_lt {i n : Nat} (hi : i < 2 ^ 31) (hn : n < 2 ^ 31) : Int32.ofNat i < Int32.ofNat n ↔ i < n := by
  rw [Int32.lt_iff_toInt_lt, own_n2i hi, own_n2i hn]
  omega
theorem own_succ (i : Nat) : Int32.ofNat i + (1 : Int32) = Int32.ofNat (i + 1) := by
  rw [Int32.ofNat_add]; rfl
theorem own_add (i k : Nat) : Int32.ofNat i + Int32.ofNat k = Int32.ofNat (i + k) := (Int32.ofNat_add i k).symm
def own_ch (c : Int32) : Prop := ¬ c < 0 ∧ ¬ (255 : Int32) < c
theorem own_nar {c : Int32} (h : own_ch c) : nar .char c = c := by
  obtain ⟨h1, h2⟩ := h
  have t : ∀ k : Fin 256, nar .char (Int32.ofNat k.val) = Int32.ofNat k.val := by decide +kernel
  rw [Int32.lt_iff_toInt_lt] at h1 h2
  have e1 : (0 : Int32).toInt = 0 := rfl
  have e2 : (255 : Int32).toInt = 255 := rfl
  have e : c = Int32.ofNat c.toInt.toNat := by
    rw [← Int32.toInt_inj, Int32.toInt_ofNat_small (by omega)]
    omega
  rw [e]
  exact t ⟨c.toInt.toNat, by omega⟩
/-- a Latin-1 String at a, its bytes at t: it spells cs -/
def own_LS (Z : State) (h : Heap) (a t : Addr) (cs : List Int32) : Prop := ∃ kb : ClassId, Exa Z h a "java/lang/String" ∧ Fld Z h a "java/lang/String" "value" "[B" (.ref t) ∧ Fld Z h a "java/lang/String" "coder" "B" (.int 0) ∧ Arv Z h t kb .byte (Int32.ofNat cs.length) ((cs.map (fun c => c.toInt8.toInt32)).map Value.int) (.int 0) ∧ (∀ c ∈ cs, own_ch c) ∧ cs.length ≤ 4
section OwnLS
variable {Z : State} {h h' : Heap} {a t b : Addr} {cs : List Int32} {sl : Nat} {v : Value} {ws : List Addr}
theorem own_LS.lt (F : own_LS Z h a t cs) : a < h.size := by obtain ⟨_, E, -⟩ := F; exact E.lt
theorem own_LS.lt2 (F : own_LS Z h a t cs) : t < h.size := by obtain ⟨_, -, -, -, K, -⟩ := F; exact K.lt
theorem own_LS.ext (F : own_LS Z h a t cs) (E : Ext h h') : own_LS Z h' a t cs := by obtain ⟨k, f1, f2, f3, f4, r⟩ := F; exact ⟨k, f1.ext E, f2.ext E, f3.ext E, f4.ext E, r⟩
theorem own_LS.other (F : own_LS Z h a t cs) (W : Wr h h' b sl v) (q : a ≠ b) (q2 : t ≠ b) : own_LS Z h' a t cs := by obtain ⟨k, f1, f2, f3, f4, r⟩ := F; exact ⟨k, f1.wr W, f2.other W (Or.inl q), f3.other W (Or.inl q), f4.other W q2, r⟩
theorem own_LS.keep (F : own_LS Z h a t cs) (K : Keep h h' ws) (q : a ∉ ws) (q2 : t ∉ ws) : own_LS Z h' a t cs := by obtain ⟨k, f1, f2, f3, f4, r⟩ := F; exact ⟨k, f1.keep K, f2.keep K q, f3.keep K q, f4.keep K q2, r⟩
theorem own_mk {kb : ClassId} {cs' : List Int32} {z : Int32} (E : Exa Z h a "java/lang/String") (V : Fld Z h a "java/lang/String" "value" "[B" (.ref t)) (C : Fld Z h a "java/lang/String" "coder" "B" (.int 0)) (K : Arv Z h t kb .byte z ((cs'.map (fun c => c.toInt8.toInt32)).map Value.int) (.int 0)) (hp : ∀ c ∈ cs', ¬ c < 0 ∧ ¬ (255 : Int32) < c) (hz : z = Int32.ofNat cs'.length) (hl : cs'.length ≤ 4) (e : cs' = cs) : own_LS Z h a t cs := by
  subst e hz
  exact ⟨kb, E, V, C, K, hp, hl⟩
end OwnLS
def own_cs (n a b c d : Int32) : List Int32 := if n = 0 then [] else if n = 1 then [a] else if n = 2 then [a, b] else if n = 3 then [a, b, c] else [a, b, c, d]
def own_hd (n a b c d : Int32) : Prop := (0 < n ∧ a = 46) ∨ (1 < n ∧ b = 46) ∨ (2 < n ∧ c = 46) ∨ (3 < n ∧ d = 46)
theorem own_hd_iff {n a b c d : Int32} (hn : ¬ n < 0) : (46 ∈ own_cs n a b c d) ↔ own_hd n a b c d := by
  have i0 : (0 : Int32).toInt = 0 := rfl
  have i1 : (1 : Int32).toInt = 1 := rfl
  have i2 : (2 : Int32).toInt = 2 := rfl
  have i3 : (3 : Int32).toInt = 3 := rfl
  rw [Int32.lt_iff_toInt_lt, i0] at hn
  unfold own_cs own_hd
  have z0 : n = 0 ↔ n.toInt = 0 := by rw [← Int32.toInt_inj, i0]
  have z1 : n = 1 ↔ n.toInt = 1 := by rw [← Int32.toInt_inj, i1]
  have z2 : n = 2 ↔ n.toInt = 2 := by rw [← Int32.toInt_inj, i2]
  have z3 : n = 3 ↔ n.toInt = 3 := by rw [← Int32.toInt_inj, i3]
  simp only [Int32.lt_iff_toInt_lt, z0, z1, z2, z3, i0, i1, i2, i3]
  by_cases h0 : n.toInt = 0
  · simp [h0]
  by_cases h1 : n.toInt = 1
  · simp [h1, eq_comm]
  by_cases h2 : n.toInt = 2
  · simp [h2, eq_comm]
  by_cases h3 : n.toInt = 3
  · simp [h3, eq_comm]
  · have q0 : 0 < n.toInt := by omega
    have q1 : 1 < n.toInt := by omega
    have q2 : 2 < n.toInt := by omega
    have q3 : 3 < n.toInt := by omega
    simp [h0, h1, h2, h3, q0, q1, q2, q3, eq_comm]
theorem own_n (x : Int32) : ¬ ((x &&& (2147483647 : Int32)) % (5 : Int32)) < 0 := by
  have hm := c_mask x 2147483647 31 (by decide) (by decide)
  intro q
  rw [Int32.lt_iff_toInt_lt, Int32.toInt_mod] at q
  have i0 : (0 : Int32).toInt = 0 := rfl
  have i5 : (5 : Int32).toInt = 5 := rfl
  rw [i0, i5] at q
  have := Int.tmod_nonneg (b := 5) (a := (x &&& (2147483647 : Int32)).toInt) (by omega)
  omega
theorem own_chL (x : Int32) : own_ch ((x &&& (255 : Int32)).toUInt32.toUInt16.toUInt32.toInt32) := by
  have t : ∀ k : Fin 256, own_ch ((Int32.ofNat k.val).toUInt32.toUInt16.toUInt32.toInt32) := by unfold own_ch; decide +kernel
  have h : (x &&& 255).toBitVec.toNat < 256 := by
    simp only [Int32.toBitVec_and, BitVec.toNat_and]
    exact Nat.lt_succ_of_le Nat.and_le_right
  have e : (x &&& 255) = Int32.ofNat (x &&& 255).toBitVec.toNat := by
    apply Int32.toBitVec_inj.mp
    show _ = BitVec.ofNat 32 _
    rw [BitVec.ofNat_toNat]; simp
  rw [e]
  exact t ⟨_, h⟩
theorem own_chn {c : Int32} (h : own_ch c) : narrow .char (.int c) = .int c := congrArg Value.int (own_nar h)
theorem own_46 : own_ch (46 : Int32) := by unfold own_ch; decide
theorem own_b46 {c : Int32} (h : own_ch c) : (c.toInt8.toInt32 = ((46 : Int32).toInt8.toInt32)) ↔ c = 46 := by
  obtain ⟨h1, h2⟩ := h
  have t : ∀ k : Fin 256, ((Int32.ofNat k.val).toInt8.toInt32 = ((46 : Int32).toInt8.toInt32)) ↔ Int32.ofNat k.val = 46 := by decide +kernel
  rw [Int32.lt_iff_toInt_lt] at h1 h2
  have e1 : (0 : Int32).toInt = 0 := rfl
  have e2 : (255 : Int32).toInt = 255 := rfl
  have e : c = Int32.ofNat c.toInt.toNat := by
    rw [← Int32.toInt_inj, Int32.toInt_ofNat_small (by omega)]
    omega
  rw [e]
  exact t ⟨c.toInt.toNat, by omega⟩
theorem own_at {cs : List Int32} {j : Nat} (hj : j < cs.length) : ((cs.map (fun c => c.toInt8.toInt32)).map Value.int).getD j (.int 0) = .int ((cs.getD j 0).toInt8.toInt32) := by
  simp [List.getD_eq_getElem?_getD, List.getElem?_map, List.getElem?_eq_getElem hj]
theorem own_mem {cs : List Int32} {j : Nat} (hj : j < cs.length) (h : cs.getD j 0 = 46) : 46 ∈ cs := by
  rw [← h, List.getD_eq_getElem?_getD, List.getElem?_eq_getElem hj]
  exact List.getElem_mem hj
theorem own_get {cs : List Int32} {j : Nat} (hj : j < cs.length) (h : ∀ c ∈ cs, own_ch c) : own_ch (cs.getD j 0) := by
  rw [List.getD_eq_getElem?_getD, List.getElem?_eq_getElem hj]
  exact h _ (List.getElem_mem hj)
theorem own_emp {cs : List Int32} {p q : Int32} (h3 : p = (0 : Int32)) (h4 : q = Int32.ofNat cs.length) (hl : cs.length ≤ 4) (h : ¬ p < q) : ¬ 46 ∈ cs := by
  rcases cs with _ | ⟨a, r⟩
  · simp
  · refine absurd ?_ h
    rw [h3, h4]
    exact (own_lt (i := 0) (by decide) (by omega)).mpr (by simp)
theorem own_nomem {cs : List Int32} (h : ∀ q, q < cs.length → cs.getD q 0 ≠ 46) : ¬ 46 ∈ cs := fun hm => by
  obtain ⟨q, hq, e⟩ := List.mem_iff_getElem.mp hm
  exact h q hq (by rw [List.getD_eq_getElem?_getD, List.getElem?_eq_getElem hq]; exact e)
theorem d1_0 : decode method_3_code 0 = .ok (.iload_n 1, 1) := by decide +kernel
theorem d1_1 : decode method_3_code 1 = .ok (.iload_n 2, 1) := by decide +kernel
theorem d1_2 : decode method_3_code 2 = .ok (.iushr, 1) := by decide +kernel
theorem d1_3 : decode method_3_code 3 = .ok (.iconst 1, 1) := by decide +kernel
theorem d1_4 : decode method_3_code 4 = .ok (.iand, 1) := by decide +kernel
theorem d1_5 : decode method_3_code 5 = .ok (.ifCond .eq 6, 3) := by decide +kernel
theorem d1_11 : decode method_3_code 11 = .ok (.iload_n 0, 1) := by decide +kernel
theorem d1_12 : decode method_3_code 12 = .ok (.bipush 8, 2) := by decide +kernel
theorem d1_14 : decode method_3_code 14 = .ok (.iload_n 2, 1) := by decide +kernel
theorem d1_15 : decode method_3_code 15 = .ok (.imul, 1) := by decide +kernel
theorem d1_16 : decode method_3_code 16 = .ok (.iushr, 1) := by decide +kernel
theorem d1_17 : decode method_3_code 17 = .ok (.sipush 255, 3) := by decide +kernel
theorem d1_20 : decode method_3_code 20 = .ok (.iand, 1) := by decide +kernel
theorem d1_21 : decode method_3_code 21 = .ok (.i2c, 1) := by decide +kernel
theorem d1_22 : decode method_3_code 22 = .ok (.ireturn, 1) := by decide +kernel
theorem d1_8 : decode method_3_code 8 = .ok (.bipush 46, 2) := by decide +kernel
theorem d1_10 : decode method_3_code 10 = .ok (.ireturn, 1) := by decide +kernel
theorem pn_0 : plainName "com/example/amendatory/amendatory/ProvisionNameIsSectionPinLaw" = true := by first | (simp [plainName, overriddenIn]; done) | decide +kernel
theorem ef_1 (m : MethodId) (x0 : Int32) (x1 : Int32) (x2 : Int32) : entryFrame m #[(.int x0), (.int x1), (.int x2)] 3 = mkF m 0 #[.val (.int x0), .val (.int x1), .val (.int x2)] [] := by first | (simp [entryFrame, mkF, argsToLocals, Value.category]; done) | rfl
def Q1 (Z : State) (p1 : Int32) (p2 : Int32) (p3 : Int32) (h0 : Heap) (n0 : Nat) (v : Option Value) (h : Heap) (L : List Loc) : Prop := ∃ r : Int32, v = some (.int r) ∧ Fr n0 L ∧ h = h0 ∧ own_ch r
set_option maxRecDepth 65536 in
set_option maxHeartbeats 40000000 in
theorem rm1 (l : Launch) (Z : State) (a0 : Array Value) (hw : ∀ d ∈ tables_1, d.before a0 Z = true) (ws : List Jvm.Cond) (p1 : Int32) (p2 : Int32) (p3 : Int32) (h0 : Heap) (n0 : Nat) (Z0 : n0 ≤ h0.size) :
    MetFree l (⟨"com/example/amendatory/amendatory/ProvisionNameIsSectionPinLaw", "pick", "(III)C"⟩ : MethodName) (head1 (Jvm.Cond.code (⟨"com/example/amendatory/amendatory/ProvisionNameIsSectionPinLaw", "pick", "(III)C"⟩ : MethodName) method_3_code 3 (some .char) :: ws) ({ frames := 0, cells := 0, slots := 0, locals := 0 } : Room)) (fun a U => a = #[(.int p1), (.int p2), (.int p3)] ∧ Z.Warmed39 U.vm ∧ U.heap = h0) (fun _ _ _ _ _ => True) (fun _ U o U' => ∃ v L, o = .returned v ∧ Q1 Z p1 p2 p3 h0 n0 v U'.heap L ∧ FrameEnd U o U' L ({ frames := 0, cells := 0, slots := 0, locals := 0 } : Room).cells ({ frames := 0, cells := 0, slots := 0, locals := 0 } : Room).slots) := by
  refine MetFree.of_bodySF (plainFor_of_name pn_0) hisR ?_
  intro p e s m args below meth c s₁ Bd hml0 hP hK
  obtain ⟨rfl, hZ, hh⟩ := hP
  have hx := Bd.exec
  have hby := Bd.bytes
  have hml : c.maxLocals = 3 := hml0
  have hown : s.vm.findClass "com/example/amendatory/amendatory/ProvisionNameIsSectionPinLaw" = some m.cls := findClass_of_methodNamed Bd.named
  have hnm := (name_of_methodNamed Bd.named Bd.method).1
  have X0 : Stand p l e ({ frames := 0, cells := 0, slots := 0, locals := 0 } : Room) s m #[(.int p1), (.int p2), (.int p3)] below meth c s₁ [] 0 0 := Stand.of_body Bd
  have e0 : s₁.heap = h0 := by rw [← hh, Bd.state]; rfl
  have N0 := Fr.nil n0
  show Go p e below s (Q1 Z p1 p2 p3 h0 n0) ({ frames := 0, cells := 0, slots := 0, locals := 0 } : Room).cells ({ frames := 0, cells := 0, slots := 0, locals := 0 } : Room).slots _
  refine Go.via (S' := s₁.setTop (mkF m 0 #[.val (.int p1), .val (.int p2), .val (.int p3)] [])) (fun t k => castTop (ef_1 m p1 p2 p3) k) ?_
  refine Go.via (S' := s₁.setTop (mkF m 1 #[.val (.int p1), .val (.int p2), .val (.int p3)] [(.int p2)])) (fun _ k => XS.iloadN X0.here hx rfl (hb hby d1_0) rfl k) ?_
  refine Go.via (S' := s₁.setTop (mkF m 2 #[.val (.int p1), .val (.int p2), .val (.int p3)] [(.int p3), (.int p2)])) (fun _ k => XS.iloadN X0.here hx rfl (hb hby d1_1) rfl k) ?_
  refine Go.via (S' := s₁.setTop (mkF m 3 #[.val (.int p1), .val (.int p2), .val (.int p3)] [(.int ((p2.toUInt32 >>> (p3 &&& 31).toUInt32).toInt32))])) (fun _ k => XS.iushr X0.here hx rfl (hb hby d1_2) rfl k) ?_
  refine Go.via (S' := s₁.setTop (mkF m 4 #[.val (.int p1), .val (.int p2), .val (.int p3)] [(.int (1 : Int32)), (.int ((p2.toUInt32 >>> (p3 &&& 31).toUInt32).toInt32))])) (fun _ k => XS.iconst X0.here hx rfl (hb hby d1_3) k) ?_
  refine Go.via (S' := s₁.setTop (mkF m 5 #[.val (.int p1), .val (.int p2), .val (.int p3)] [(.int (((p2.toUInt32 >>> (p3 &&& 31).toUInt32).toInt32) &&& (1 : Int32)))])) (fun _ k => XS.iand X0.here hx rfl (hb hby d1_4) rfl k) ?_
  rcases Decidable.em ((((p2.toUInt32 >>> (p3 &&& 31).toUInt32).toInt32) &&& (1 : Int32)) = (0 : Int32)) with hc5 | hc5
  · refine Go.via (S' := s₁.setTop (mkF m 11 #[.val (.int p1), .val (.int p2), .val (.int p3)] [])) (fun _ k => XS.ifYes X0.here hx rfl (pc0 := 5) (pc' := 11) rfl (hb hby d1_5) rfl ((if0 _ _).trans (teq hc5).1) (by decide) (by decide) k) ?_
    refine Go.via (S' := s₁.setTop (mkF m 12 #[.val (.int p1), .val (.int p2), .val (.int p3)] [(.int p1)])) (fun _ k => XS.iloadN X0.here hx rfl (hb hby d1_11) rfl k) ?_
    refine Go.via (S' := s₁.setTop (mkF m 14 #[.val (.int p1), .val (.int p2), .val (.int p3)] [(.int (8 : Int32)), (.int p1)])) (fun _ k => XS.bipush X0.here hx rfl (hb hby d1_12) k) ?_
    refine Go.via (S' := s₁.setTop (mkF m 15 #[.val (.int p1), .val (.int p2), .val (.int p3)] [(.int p3), (.int (8 : Int32)), (.int p1)])) (fun _ k => XS.iloadN X0.here hx rfl (hb hby d1_14) rfl k) ?_
    refine Go.via (S' := s₁.setTop (mkF m 16 #[.val (.int p1), .val (.int p2), .val (.int p3)] [(.int ((8 : Int32) * p3)), (.int p1)])) (fun _ k => XS.imul X0.here hx rfl (hb hby d1_15) rfl k) ?_
    refine Go.via (S' := s₁.setTop (mkF m 17 #[.val (.int p1), .val (.int p2), .val (.int p3)] [(.int ((p1.toUInt32 >>> (((8 : Int32) * p3) &&& 31).toUInt32).toInt32))])) (fun _ k => XS.iushr X0.here hx rfl (hb hby d1_16) rfl k) ?_
    refine Go.via (S' := s₁.setTop (mkF m 20 #[.val (.int p1), .val (.int p2), .val (.int p3)] [(.int (255 : Int32)), (.int ((p1.toUInt32 >>> (((8 : Int32) * p3) &&& 31).toUInt32).toInt32))])) (fun _ k => XS.sipush X0.here hx rfl (hb hby d1_17) k) ?_
    refine Go.via (S' := s₁.setTop (mkF m 21 #[.val (.int p1), .val (.int p2), .val (.int p3)] [(.int (((p1.toUInt32 >>> (((8 : Int32) * p3) &&& 31).toUInt32).toInt32) &&& (255 : Int32)))])) (fun _ k => XS.iand X0.here hx rfl (hb hby d1_20) rfl k) ?_
    refine Go.via (S' := s₁.setTop (mkF m 22 #[.val (.int p1), .val (.int p2), .val (.int p3)] [(.int ((((p1.toUInt32 >>> (((8 : Int32) * p3) &&& 31).toUInt32).toInt32) &&& (255 : Int32)).toUInt32.toUInt16.toUInt32.toInt32))])) (fun _ k => XS.i2c X0.here hx rfl (hb hby d1_21) rfl k) ?_
    exact Go.retC X0 hx (BodyLoose.notSynchronized Bd) Bd.returns (hb hby d1_22) (own_chn (own_chL _)) (by rw [e0]; exact ⟨_, rfl, N0, rfl, own_chL _⟩) (by decide) (by decide)
  · refine Go.via (S' := s₁.setTop (mkF m 8 #[.val (.int p1), .val (.int p2), .val (.int p3)] [])) (fun _ k => XS.ifNo X0.here hx rfl (hb hby d1_5) rfl ((if0 _ _).trans (feq hc5).1) k) ?_
    refine Go.via (S' := s₁.setTop (mkF m 10 #[.val (.int p1), .val (.int p2), .val (.int p3)] [(.int (46 : Int32))])) (fun _ k => XS.bipush X0.here hx rfl (hb hby d1_8) k) ?_
    exact Go.retC X0 hx (BodyLoose.notSynchronized Bd) Bd.returns (hb hby d1_10) rfl (by rw [e0]; exact ⟨_, rfl, N0, rfl, own_46⟩) (by decide) (by decide)
theorem d2_0 : decode method_4_code 0 = .ok (.iload_n 0, 1) := by decide +kernel
theorem d2_1 : decode method_4_code 1 = .ok (.ifCond .ne 6, 3) := by decide +kernel
theorem d2_7 : decode method_4_code 7 = .ok (.iload_n 0, 1) := by decide +kernel
theorem d2_8 : decode method_4_code 8 = .ok (.iconst 1, 1) := by decide +kernel
theorem d2_9 : decode method_4_code 9 = .ok (.if_icmp .ne 18, 3) := by decide +kernel
theorem d2_12 : decode method_4_code 12 = .ok (.new 19, 3) := by decide +kernel
theorem d2_15 : decode method_4_code 15 = .ok (.dup, 1) := by decide +kernel
theorem d2_16 : decode method_4_code 16 = .ok (.iconst 1, 1) := by decide +kernel
theorem d2_17 : decode method_4_code 17 = .ok (.newarray .char, 2) := by decide +kernel
theorem d2_19 : decode method_4_code 19 = .ok (.dup, 1) := by decide +kernel
theorem d2_20 : decode method_4_code 20 = .ok (.iconst 0, 1) := by decide +kernel
theorem d2_21 : decode method_4_code 21 = .ok (.iload_n 1, 1) := by decide +kernel
theorem d2_22 : decode method_4_code 22 = .ok (.castore, 1) := by decide +kernel
theorem d2_23 : decode method_4_code 23 = .ok (.invokespecial 39, 3) := by decide +kernel
theorem pd_0 : parseMethodDescriptor "([C)V" = some ⟨[(.array .char)], none⟩ := by decide +kernel
theorem d2_26 : decode method_4_code 26 = .ok (.areturn, 1) := by decide +kernel
theorem d2_27 : decode method_4_code 27 = .ok (.iload_n 0, 1) := by decide +kernel
theorem d2_28 : decode method_4_code 28 = .ok (.iconst 2, 1) := by decide +kernel
theorem d2_29 : decode method_4_code 29 = .ok (.if_icmp .ne 22, 3) := by decide +kernel
theorem d2_32 : decode method_4_code 32 = .ok (.new 19, 3) := by decide +kernel
theorem d2_35 : decode method_4_code 35 = .ok (.dup, 1) := by decide +kernel
theorem d2_36 : decode method_4_code 36 = .ok (.iconst 2, 1) := by decide +kernel
theorem d2_37 : decode method_4_code 37 = .ok (.newarray .char, 2) := by decide +kernel
theorem d2_39 : decode method_4_code 39 = .ok (.dup, 1) := by decide +kernel
theorem d2_40 : decode method_4_code 40 = .ok (.iconst 0, 1) := by decide +kernel
theorem d2_41 : decode method_4_code 41 = .ok (.iload_n 1, 1) := by decide +kernel
theorem d2_42 : decode method_4_code 42 = .ok (.castore, 1) := by decide +kernel
theorem d2_43 : decode method_4_code 43 = .ok (.dup, 1) := by decide +kernel
theorem d2_44 : decode method_4_code 44 = .ok (.iconst 1, 1) := by decide +kernel
theorem d2_45 : decode method_4_code 45 = .ok (.iload_n 2, 1) := by decide +kernel
theorem d2_46 : decode method_4_code 46 = .ok (.castore, 1) := by decide +kernel
theorem d2_47 : decode method_4_code 47 = .ok (.invokespecial 39, 3) := by decide +kernel
theorem d2_50 : decode method_4_code 50 = .ok (.areturn, 1) := by decide +kernel
theorem d2_51 : decode method_4_code 51 = .ok (.iload_n 0, 1) := by decide +kernel
theorem d2_52 : decode method_4_code 52 = .ok (.iconst 3, 1) := by decide +kernel
theorem d2_53 : decode method_4_code 53 = .ok (.if_icmp .ne 26, 3) := by decide +kernel
theorem d2_56 : decode method_4_code 56 = .ok (.new 19, 3) := by decide +kernel
theorem d2_59 : decode method_4_code 59 = .ok (.dup, 1) := by decide +kernel
theorem d2_60 : decode method_4_code 60 = .ok (.iconst 3, 1) := by decide +kernel
theorem d2_61 : decode method_4_code 61 = .ok (.newarray .char, 2) := by decide +kernel
theorem d2_63 : decode method_4_code 63 = .ok (.dup, 1) := by decide +kernel
theorem d2_64 : decode method_4_code 64 = .ok (.iconst 0, 1) := by decide +kernel
theorem d2_65 : decode method_4_code 65 = .ok (.iload_n 1, 1) := by decide +kernel
theorem d2_66 : decode method_4_code 66 = .ok (.castore, 1) := by decide +kernel
theorem d2_67 : decode method_4_code 67 = .ok (.dup, 1) := by decide +kernel
theorem d2_68 : decode method_4_code 68 = .ok (.iconst 1, 1) := by decide +kernel
theorem d2_69 : decode method_4_code 69 = .ok (.iload_n 2, 1) := by decide +kernel
theorem d2_70 : decode method_4_code 70 = .ok (.castore, 1) := by decide +kernel
theorem d2_71 : decode method_4_code 71 = .ok (.dup, 1) := by decide +kernel
theorem d2_72 : decode method_4_code 72 = .ok (.iconst 2, 1) := by decide +kernel
theorem d2_73 : decode method_4_code 73 = .ok (.iload_n 3, 1) := by decide +kernel
theorem d2_74 : decode method_4_code 74 = .ok (.castore, 1) := by decide +kernel
theorem d2_75 : decode method_4_code 75 = .ok (.invokespecial 39, 3) := by decide +kernel
theorem d2_78 : decode method_4_code 78 = .ok (.areturn, 1) := by decide +kernel
theorem d2_79 : decode method_4_code 79 = .ok (.new 19, 3) := by decide +kernel
theorem d2_82 : decode method_4_code 82 = .ok (.dup, 1) := by decide +kernel
theorem d2_83 : decode method_4_code 83 = .ok (.iconst 4, 1) := by decide +kernel
theorem d2_84 : decode method_4_code 84 = .ok (.newarray .char, 2) := by decide +kernel
theorem d2_86 : decode method_4_code 86 = .ok (.dup, 1) := by decide +kernel
theorem d2_87 : decode method_4_code 87 = .ok (.iconst 0, 1) := by decide +kernel
theorem d2_88 : decode method_4_code 88 = .ok (.iload_n 1, 1) := by decide +kernel
theorem d2_89 : decode method_4_code 89 = .ok (.castore, 1) := by decide +kernel
theorem d2_90 : decode method_4_code 90 = .ok (.dup, 1) := by decide +kernel
theorem d2_91 : decode method_4_code 91 = .ok (.iconst 1, 1) := by decide +kernel
theorem d2_92 : decode method_4_code 92 = .ok (.iload_n 2, 1) := by decide +kernel
theorem d2_93 : decode method_4_code 93 = .ok (.castore, 1) := by decide +kernel
theorem d2_94 : decode method_4_code 94 = .ok (.dup, 1) := by decide +kernel
theorem d2_95 : decode method_4_code 95 = .ok (.iconst 2, 1) := by decide +kernel
theorem d2_96 : decode method_4_code 96 = .ok (.iload_n 3, 1) := by decide +kernel
theorem d2_97 : decode method_4_code 97 = .ok (.castore, 1) := by decide +kernel
theorem d2_98 : decode method_4_code 98 = .ok (.dup, 1) := by decide +kernel
theorem d2_99 : decode method_4_code 99 = .ok (.iconst 3, 1) := by decide +kernel
theorem d2_100 : decode method_4_code 100 = .ok (.iload 4, 2) := by decide +kernel
theorem d2_102 : decode method_4_code 102 = .ok (.castore, 1) := by decide +kernel
theorem d2_103 : decode method_4_code 103 = .ok (.invokespecial 39, 3) := by decide +kernel
theorem d2_106 : decode method_4_code 106 = .ok (.areturn, 1) := by decide +kernel
theorem ef_2 (m : MethodId) (x0 : Int32) (x1 : Int32) (x2 : Int32) (x3 : Int32) (x4 : Int32) : entryFrame m #[(.int x0), (.int x1), (.int x2), (.int x3), (.int x4)] 5 = mkF m 0 #[.val (.int x0), .val (.int x1), .val (.int x2), .val (.int x3), .val (.int x4)] [] := by first | (simp [entryFrame, mkF, argsToLocals, Value.category]; done) | rfl
def Q2 (Z : State) (p1 : Int32) (p2 : Int32) (p3 : Int32) (p4 : Int32) (p5 : Int32) (G1 : Int32) (h0 : Heap) (n0 : Nat) (v : Option Value) (h : Heap) (L : List Loc) : Prop := ∃ r t : Addr, v = some (.ref r) ∧ Fr n0 L ∧ Keep h0 h [] ∧ own_LS Z h r t (own_cs p1 p2 p3 p4 p5)
set_option maxRecDepth 65536 in
set_option maxHeartbeats 40000000 in
theorem rm2 (l : Launch) (Z : State) (a0 : Array Value) (hw : ∀ d ∈ tables_1, d.before a0 Z = true) (ws : List Jvm.Cond) (p1 : Int32) (p2 : Int32) (p3 : Int32) (p4 : Int32) (p5 : Int32) (G1 : Int32) (h0 : Heap) (n0 : Nat) (Z0 : n0 ≤ h0.size) (X00 : Old Z n0 h0) (O2 : Sta Z Z.heap "java/lang/String" "COMPACT_STRINGS" "Z" (.int G1)) (P5 : ¬ G1 = (0 : Int32)) (h2 : own_ch p2) (h3 : own_ch p3) (h4 : own_ch p4) (h5 : own_ch p5) (hn0 : ¬ p1 = (0 : Int32)) :
    MetFree l (⟨"com/example/amendatory/amendatory/ProvisionNameIsSectionPinLaw", "make", "(ICCCC)Ljava/lang/String;"⟩ : MethodName) (head1 (Jvm.Cond.code (⟨"com/example/amendatory/amendatory/ProvisionNameIsSectionPinLaw", "make", "(ICCCC)Ljava/lang/String;"⟩ : MethodName) method_4_code 5 (some (.object "java/lang/String")) :: ws) ({ frames := 4, cells := 3, slots := 12, locals := 66 } : Room)) (fun a U => a = #[(.int p1), (.int p2), (.int p3), (.int p4), (.int p5)] ∧ Z.Warmed39 U.vm ∧ U.heap = h0) (fun _ _ _ _ _ => True) (fun _ U o U' => ∃ v L, o = .returned v ∧ Q2 Z p1 p2 p3 p4 p5 G1 h0 n0 v U'.heap L ∧ FrameEnd U o U' L ({ frames := 4, cells := 3, slots := 12, locals := 66 } : Room).cells ({ frames := 4, cells := 3, slots := 12, locals := 66 } : Room).slots) := by
  refine MetFree.of_bodySF (plainFor_of_name pn_0) hisR ?_
  intro p e s m args below meth c s₁ Bd hml0 hP hK
  obtain ⟨rfl, hZ, hh⟩ := hP
  have hx := Bd.exec
  have hby := Bd.bytes
  have hml : c.maxLocals = 5 := hml0
  have hown : s.vm.findClass "com/example/amendatory/amendatory/ProvisionNameIsSectionPinLaw" = some m.cls := findClass_of_methodNamed Bd.named
  have hnm := (name_of_methodNamed Bd.named Bd.method).1
  have X0 : Stand p l e ({ frames := 4, cells := 3, slots := 12, locals := 66 } : Room) s m #[(.int p1), (.int p2), (.int p3), (.int p4), (.int p5)] below meth c s₁ [] 0 0 := Stand.of_body Bd
  have e0 : s₁.heap = h0 := by rw [← hh, Bd.state]; rfl
  have N0 := Fr.nil n0
  show Go p e below s (Q2 Z p1 p2 p3 p4 p5 G1 h0 n0) ({ frames := 4, cells := 3, slots := 12, locals := 66 } : Room).cells ({ frames := 4, cells := 3, slots := 12, locals := 66 } : Room).slots _
  refine Go.via (S' := s₁.setTop (mkF m 0 #[.val (.int p1), .val (.int p2), .val (.int p3), .val (.int p4), .val (.int p5)] [])) (fun t k => castTop (ef_2 m p1 p2 p3 p4 p5) k) ?_
  have hws : ∀ d ∈ StrChars.Road.words, d.before a0 Z = true := fun d hd => hw d ((by decide +kernel : ∀ d ∈ StrChars.Road.words, d ∈ tables_1) d hd)
  refine Go.via (S' := s₁.setTop (mkF m 1 #[.val (.int p1), .val (.int p2), .val (.int p3), .val (.int p4), .val (.int p5)] [(.int p1)])) (fun _ k => XS.iloadN X0.here hx rfl (hb hby d2_0) rfl k) ?_
  refine Go.via (S' := s₁.setTop (mkF m 7 #[.val (.int p1), .val (.int p2), .val (.int p3), .val (.int p4), .val (.int p5)] [])) (fun _ k => XS.ifYes X0.here hx rfl (pc0 := 1) (pc' := 7) rfl (hb hby d2_1) rfl ((if0 _ _).trans (feq hn0).2) (by decide) (by decide) k) ?_
  refine Go.via (S' := s₁.setTop (mkF m 8 #[.val (.int p1), .val (.int p2), .val (.int p3), .val (.int p4), .val (.int p5)] [(.int p1)])) (fun _ k => XS.iloadN X0.here hx rfl (hb hby d2_7) rfl k) ?_
  refine Go.via (S' := s₁.setTop (mkF m 9 #[.val (.int p1), .val (.int p2), .val (.int p3), .val (.int p4), .val (.int p5)] [(.int (1 : Int32)), (.int p1)])) (fun _ k => XS.iconst X0.here hx rfl (hb hby d2_8) k) ?_
  rcases Decidable.em (p1 = (1 : Int32)) with hc9 | hc9
  · refine Go.via (S' := s₁.setTop (mkF m 12 #[.val (.int p1), .val (.int p2), .val (.int p3), .val (.int p4), .val (.int p5)] [])) (fun _ k => XS.icmpNo X0.here hx rfl (hb hby d2_9) rfl (teq hc9).2 k) ?_
    obtain ⟨T1, h1, X1, e1, E1, A1, D1, -, st1⟩ := newO X0 hx hZ hown (hw _ (List.mem_of_getElem? (i := 8) rfl)) (hw _ (List.mem_of_getElem? (i := 9) rfl)) (hw _ (List.mem_of_getElem? (i := 10) rfl)) e0 (g := (mkF m 12 #[.val (.int p1), .val (.int p2), .val (.int p3), .val (.int p4), .val (.int p5)] [])) rfl (hb hby d2_12) (by decide) (by decide)
    obtain ⟨b1, g1⟩ : ∃ z, z = h0.size := ⟨_, rfl⟩
    rw [← g1] at A1 D1 st1
    have g2 : n0 ≤ b1 := Nat.le_trans Z0 (Nat.le_of_eq g1.symm)
    have g3 : h0.size ≤ b1 := Nat.le_trans (Keep.refl h0 []).1 (Nat.le_of_eq g1.symm)
    have f4 := X00.ext E1
    have z5 := Nat.le_trans Z0 E1.1
    have K6 := (Keep.refl h0 []).ext E1
    have F7 : Fld Z h1 b1 "java/lang/String" "coder" "B" (.int (0 : Int32)) := D1 (Or.inr (hw _ (List.mem_of_getElem? (i := 35) rfl))) (ty := .byte) (by decide)
    have F8 : Fld Z h1 b1 "java/lang/String" "value" "[B" .null := D1 (Or.inr (hw _ (List.mem_of_getElem? (i := 37) rfl))) (ty := (.array .byte)) (by decide)
    refine Go.via (S' := T1.setTop (mkF m 15 #[.val (.int p1), .val (.int p2), .val (.int p3), .val (.int p4), .val (.int p5)] [(.ref b1)])) (fun _ k => st1 _ k) ?_
    refine Go.via (S' := T1.setTop (mkF m 16 #[.val (.int p1), .val (.int p2), .val (.int p3), .val (.int p4), .val (.int p5)] [(.ref b1), (.ref b1)])) (fun _ k => XS.dup X1.here hx rfl (hb hby d2_15) rfl rfl k) ?_
    refine Go.via (S' := T1.setTop (mkF m 17 #[.val (.int p1), .val (.int p2), .val (.int p3), .val (.int p4), .val (.int p5)] [(.int (1 : Int32)), (.ref b1), (.ref b1)])) (fun _ k => XS.iconst X1.here hx rfl (hb hby d2_16) k) ?_
    obtain ⟨T9, h9, k9, X9, e9, E9, A9, st9⟩ := newP X1 hx hZ (hw _ (List.mem_of_getElem? (i := 11) rfl)) e1 (g := (mkF m 17 #[.val (.int p1), .val (.int p2), .val (.int p3), .val (.int p4), .val (.int p5)] [(.int (1 : Int32)), (.ref b1), (.ref b1)])) rfl (hb hby d2_17) rfl (by decide) (cap := 1) (by decide) (by decide) (by decide) (by decide)
    obtain ⟨b9, g9⟩ : ∃ z, z = h1.size := ⟨_, rfl⟩
    rw [← g9] at A9 st9
    have ne10 : b1 ≠ b9 := Nat.ne_of_lt (Nat.lt_of_lt_of_le A1.lt (Nat.le_of_eq g9.symm))
    have g11 : n0 ≤ b9 := Nat.le_trans z5 (Nat.le_of_eq g9.symm)
    have g12 : h0.size ≤ b9 := Nat.le_trans K6.1 (Nat.le_of_eq g9.symm)
    have f13 := f4.ext E9
    have f14 := A1.ext E9
    have f15 := F7.ext E9
    have f16 := F8.ext E9
    have z17 := Nat.le_trans z5 E9.1
    have K18 := K6.ext E9
    have V19 : Arv Z h9 b9 k9 .char (1 : Int32) [(.int (0 : Int32))] (.int (0 : Int32)) := (Arv.new A9 (by decide)).pad (pad_rep [] (.int (0 : Int32)) 1)
    refine Go.via (S' := T9.setTop (mkF m 19 #[.val (.int p1), .val (.int p2), .val (.int p3), .val (.int p4), .val (.int p5)] [(.ref b9), (.ref b1), (.ref b1)])) (fun _ k => st9 _ k) ?_
    refine Go.via (S' := T9.setTop (mkF m 20 #[.val (.int p1), .val (.int p2), .val (.int p3), .val (.int p4), .val (.int p5)] [(.ref b9), (.ref b9), (.ref b1), (.ref b1)])) (fun _ k => XS.dup X9.here hx rfl (hb hby d2_19) rfl rfl k) ?_
    refine Go.via (S' := T9.setTop (mkF m 21 #[.val (.int p1), .val (.int p2), .val (.int p3), .val (.int p4), .val (.int p5)] [(.int (0 : Int32)), (.ref b9), (.ref b9), (.ref b1), (.ref b1)])) (fun _ k => XS.iconst X9.here hx rfl (hb hby d2_20) k) ?_
    refine Go.via (S' := T9.setTop (mkF m 22 #[.val (.int p1), .val (.int p2), .val (.int p3), .val (.int p4), .val (.int p5)] [(.int p2), (.int (0 : Int32)), (.ref b9), (.ref b9), (.ref b1), (.ref b1)])) (fun _ k => XS.iloadN X9.here hx rfl (hb hby d2_21) rfl k) ?_
    obtain ⟨c20, Ar20, q20, S20, M20, H20, G20⟩ := id V19
    obtain ⟨T20, h20, X20, e20, W20, st20⟩ := stC X9 hx hZ e9 Ar20 (j := (0 : Int32)) (inb_of S20 ⟨by decide, by decide⟩) (g := (mkF m 22 #[.val (.int p1), .val (.int p2), .val (.int p3), .val (.int p4), .val (.int p5)] [(.int p2), (.int (0 : Int32)), (.ref b9), (.ref b9), (.ref b1), (.ref b1)])) rfl rfl (hb hby d2_22)
    have V21 : Arv Z h20 b9 k9 .char (1 : Int32) [(.int (nar .char p2))] (.int (0 : Int32)) := Arv.set Ar20 q20 S20 M20 H20 G20 (fits_nar_char _) W20 0 rfl (Nat.le_of_ble_eq_true rfl)
    have N22 := Fr.snoc X20 N0 g11
    have f23 := f13.wr W20 g11
    have f24 := f14.wr W20
    have f25 := f15.other W20 (Or.inl ne10)
    have f26 := f16.other W20 (Or.inl ne10)
    have z27 := Nat.le_trans z17 (Keep.of_wr W20).1
    have K28 := K18.wr W20 (Or.inr g12)
    refine Go.via (S' := T20.setTop (mkF m 23 #[.val (.int p1), .val (.int p2), .val (.int p3), .val (.int p4), .val (.int p5)] [(.ref b9), (.ref b1), (.ref b1)])) (fun _ k => st20 _ k) ?_
    have hp29 : ∀ c ∈ ([(nar .char p2)] : List Int32), ¬ c < 0 ∧ ¬ (255 : Int32) < c := by
      intro c hc
      simp only [List.mem_cons, List.not_mem_nil, or_false] at hc
      rcases hc with rfl
      · exact (by rw [own_nar h2]; exact h2)
    obtain ⟨_, _, ⟨T30, L30, k30, n30⟩, -, X30, ⟨Lc30, hQ30, l30, y30, z30⟩, st30⟩ := X20.specialBack hx (y := (⟨"java/lang/String", "<init>", "([C)V"⟩ : MethodName)) rfl hown (mvT hZ (hw _ (List.mem_of_getElem? (i := 12) rfl))) (mvT hZ (hw _ (List.mem_of_getElem? (i := 13) rfl))) (mvT hZ (hw _ (List.mem_of_getElem? (i := 14) rfl))) (by decide) (StrChars.Road.backV (W := 1) hZ hws (kI := 4) (hw _ (List.mem_of_getElem? (i := 9) rfl)) (cs := ([(nar .char p2)] : List Int32)) (bs := (([(nar .char p2)] : List Int32)).map (fun c => c.toInt8.toInt32)) (n := 1) g2 z27 f24 f26 f25 V21 (O2.ext f23.2) P5 rfl rfl (by decide) (by decide) hp29 rfl (by decide) (by decide)) (g := (mkF m 23 #[.val (.int p1), .val (.int p2), .val (.int p3), .val (.int p4), .val (.int p5)] [(.ref b9), (.ref b1), (.ref b1)])) rfl (by rw [hml]; rfl) (Steps.refl _) (a := b1) (argsL := [(.ref b9)]) (rest := [(.ref b1)]) (lenOf pd_0 rfl) rfl (by show 2 * 0 + _ ≤ _; exact Nat.le_of_eq rfl) (hb hby d2_23) (fun _ _ => ⟨rfl, e20, (by decide : 2 + 1 ≤ _), (by decide : 5 + 1 ≤ _)⟩)
    dsimp only [Pt.U, Pt.locs, Pt.cells, Pt.slots] at X30 l30 y30 z30 st30 hQ30
    subst l30 y30 z30
    obtain ⟨rfl, N30q, K30, Ee30, Fc30, t30, kb30, u130, u230, u330, Fv30, Va30⟩ := hQ30
    have N31 := Fr.app N22 N30q
    have f32 := f23.keep K30 (allS g2 all0)
    have f33 := f24.keep K30
    have f34 := V21.keep K30 (ninS (Ne.symm ne10) nin0)
    have z35 := Nat.le_trans z27 K30.1
    have K36 := K28.trans K30 (allS (Or.inr g3) all0)
    refine Go.via (S' := T30.setTop (mkF m 26 #[.val (.int p1), .val (.int p2), .val (.int p3), .val (.int p4), .val (.int p5)] [(.ref b1)])) (fun _ k => st30.trans k) ?_
    have ne37 : b9 ≠ t30 := Nat.ne_of_lt (Nat.lt_of_lt_of_le V21.lt u230)
    have g38 : h0.size ≤ t30 := Nat.le_trans K28.1 u230
    exact Go.retA X30 hx (BodyLoose.notSynchronized Bd) Bd.returns rfl rfl rfl (hb hby d2_26) ⟨_, t30, rfl, N31, K36, own_mk f33 Fv30 Fc30 Va30 hp29 rfl (Nat.le_of_ble_eq_true rfl) (by simp [own_cs, own_nar h2, own_nar h3, own_nar h4, own_nar h5, hn0, hc9])⟩ (by decide) (by decide)
  · refine Go.via (S' := s₁.setTop (mkF m 27 #[.val (.int p1), .val (.int p2), .val (.int p3), .val (.int p4), .val (.int p5)] [])) (fun _ k => XS.icmpYes X0.here hx rfl (pc0 := 9) (pc' := 27) rfl (hb hby d2_9) rfl (feq hc9).2 (by decide) (by decide) k) ?_
    refine Go.via (S' := s₁.setTop (mkF m 28 #[.val (.int p1), .val (.int p2), .val (.int p3), .val (.int p4), .val (.int p5)] [(.int p1)])) (fun _ k => XS.iloadN X0.here hx rfl (hb hby d2_27) rfl k) ?_
    refine Go.via (S' := s₁.setTop (mkF m 29 #[.val (.int p1), .val (.int p2), .val (.int p3), .val (.int p4), .val (.int p5)] [(.int (2 : Int32)), (.int p1)])) (fun _ k => XS.iconst X0.here hx rfl (hb hby d2_28) k) ?_
    rcases Decidable.em (p1 = (2 : Int32)) with hc29 | hc29
    · refine Go.via (S' := s₁.setTop (mkF m 32 #[.val (.int p1), .val (.int p2), .val (.int p3), .val (.int p4), .val (.int p5)] [])) (fun _ k => XS.icmpNo X0.here hx rfl (hb hby d2_29) rfl (teq hc29).2 k) ?_
      obtain ⟨T39, h39, X39, e39, E39, A39, D39, -, st39⟩ := newO X0 hx hZ hown (hw _ (List.mem_of_getElem? (i := 8) rfl)) (hw _ (List.mem_of_getElem? (i := 9) rfl)) (hw _ (List.mem_of_getElem? (i := 10) rfl)) e0 (g := (mkF m 32 #[.val (.int p1), .val (.int p2), .val (.int p3), .val (.int p4), .val (.int p5)] [])) rfl (hb hby d2_32) (by decide) (by decide)
      obtain ⟨b39, g39⟩ : ∃ z, z = h0.size := ⟨_, rfl⟩
      rw [← g39] at A39 D39 st39
      have g40 : n0 ≤ b39 := Nat.le_trans Z0 (Nat.le_of_eq g39.symm)
      have g41 : h0.size ≤ b39 := Nat.le_trans (Keep.refl h0 []).1 (Nat.le_of_eq g39.symm)
      have f42 := X00.ext E39
      have z43 := Nat.le_trans Z0 E39.1
      have K44 := (Keep.refl h0 []).ext E39
      have F45 : Fld Z h39 b39 "java/lang/String" "coder" "B" (.int (0 : Int32)) := D39 (Or.inr (hw _ (List.mem_of_getElem? (i := 35) rfl))) (ty := .byte) (by decide)
      have F46 : Fld Z h39 b39 "java/lang/String" "value" "[B" .null := D39 (Or.inr (hw _ (List.mem_of_getElem? (i := 37) rfl))) (ty := (.array .byte)) (by decide)
      refine Go.via (S' := T39.setTop (mkF m 35 #[.val (.int p1), .val (.int p2), .val (.int p3), .val (.int p4), .val (.int p5)] [(.ref b39)])) (fun _ k => st39 _ k) ?_
      refine Go.via (S' := T39.setTop (mkF m 36 #[.val (.int p1), .val (.int p2), .val (.int p3), .val (.int p4), .val (.int p5)] [(.ref b39), (.ref b39)])) (fun _ k => XS.dup X39.here hx rfl (hb hby d2_35) rfl rfl k) ?_
      refine Go.via (S' := T39.setTop (mkF m 37 #[.val (.int p1), .val (.int p2), .val (.int p3), .val (.int p4), .val (.int p5)] [(.int (2 : Int32)), (.ref b39), (.ref b39)])) (fun _ k => XS.iconst X39.here hx rfl (hb hby d2_36) k) ?_
      obtain ⟨T47, h47, k47, X47, e47, E47, A47, st47⟩ := newP X39 hx hZ (hw _ (List.mem_of_getElem? (i := 11) rfl)) e39 (g := (mkF m 37 #[.val (.int p1), .val (.int p2), .val (.int p3), .val (.int p4), .val (.int p5)] [(.int (2 : Int32)), (.ref b39), (.ref b39)])) rfl (hb hby d2_37) rfl (by decide) (cap := 2) (by decide) (by decide) (by decide) (by decide)
      obtain ⟨b47, g47⟩ : ∃ z, z = h39.size := ⟨_, rfl⟩
      rw [← g47] at A47 st47
      have ne48 : b39 ≠ b47 := Nat.ne_of_lt (Nat.lt_of_lt_of_le A39.lt (Nat.le_of_eq g47.symm))
      have g49 : n0 ≤ b47 := Nat.le_trans z43 (Nat.le_of_eq g47.symm)
      have g50 : h0.size ≤ b47 := Nat.le_trans K44.1 (Nat.le_of_eq g47.symm)
      have f51 := f42.ext E47
      have f52 := A39.ext E47
      have f53 := F45.ext E47
      have f54 := F46.ext E47
      have z55 := Nat.le_trans z43 E47.1
      have K56 := K44.ext E47
      have V57 : Arv Z h47 b47 k47 .char (2 : Int32) [(.int (0 : Int32)), (.int (0 : Int32))] (.int (0 : Int32)) := (Arv.new A47 (by decide)).pad (pad_rep [] (.int (0 : Int32)) 2)
      refine Go.via (S' := T47.setTop (mkF m 39 #[.val (.int p1), .val (.int p2), .val (.int p3), .val (.int p4), .val (.int p5)] [(.ref b47), (.ref b39), (.ref b39)])) (fun _ k => st47 _ k) ?_
      refine Go.via (S' := T47.setTop (mkF m 40 #[.val (.int p1), .val (.int p2), .val (.int p3), .val (.int p4), .val (.int p5)] [(.ref b47), (.ref b47), (.ref b39), (.ref b39)])) (fun _ k => XS.dup X47.here hx rfl (hb hby d2_39) rfl rfl k) ?_
      refine Go.via (S' := T47.setTop (mkF m 41 #[.val (.int p1), .val (.int p2), .val (.int p3), .val (.int p4), .val (.int p5)] [(.int (0 : Int32)), (.ref b47), (.ref b47), (.ref b39), (.ref b39)])) (fun _ k => XS.iconst X47.here hx rfl (hb hby d2_40) k) ?_
      refine Go.via (S' := T47.setTop (mkF m 42 #[.val (.int p1), .val (.int p2), .val (.int p3), .val (.int p4), .val (.int p5)] [(.int p2), (.int (0 : Int32)), (.ref b47), (.ref b47), (.ref b39), (.ref b39)])) (fun _ k => XS.iloadN X47.here hx rfl (hb hby d2_41) rfl k) ?_
      obtain ⟨c58, Ar58, q58, S58, M58, H58, G58⟩ := id V57
      obtain ⟨T58, h58, X58, e58, W58, st58⟩ := stC X47 hx hZ e47 Ar58 (j := (0 : Int32)) (inb_of S58 ⟨by decide, by decide⟩) (g := (mkF m 42 #[.val (.int p1), .val (.int p2), .val (.int p3), .val (.int p4), .val (.int p5)] [(.int p2), (.int (0 : Int32)), (.ref b47), (.ref b47), (.ref b39), (.ref b39)])) rfl rfl (hb hby d2_42)
      have V59 : Arv Z h58 b47 k47 .char (2 : Int32) [(.int (nar .char p2)), (.int (0 : Int32))] (.int (0 : Int32)) := Arv.set Ar58 q58 S58 M58 H58 G58 (fits_nar_char _) W58 0 rfl (Nat.le_of_ble_eq_true rfl)
      have N60 := Fr.snoc X58 N0 g49
      have f61 := f51.wr W58 g49
      have f62 := f52.wr W58
      have f63 := f53.other W58 (Or.inl ne48)
      have f64 := f54.other W58 (Or.inl ne48)
      have z65 := Nat.le_trans z55 (Keep.of_wr W58).1
      have K66 := K56.wr W58 (Or.inr g50)
      refine Go.via (S' := T58.setTop (mkF m 43 #[.val (.int p1), .val (.int p2), .val (.int p3), .val (.int p4), .val (.int p5)] [(.ref b47), (.ref b39), (.ref b39)])) (fun _ k => st58 _ k) ?_
      refine Go.via (S' := T58.setTop (mkF m 44 #[.val (.int p1), .val (.int p2), .val (.int p3), .val (.int p4), .val (.int p5)] [(.ref b47), (.ref b47), (.ref b39), (.ref b39)])) (fun _ k => XS.dup X58.here hx rfl (hb hby d2_43) rfl rfl k) ?_
      refine Go.via (S' := T58.setTop (mkF m 45 #[.val (.int p1), .val (.int p2), .val (.int p3), .val (.int p4), .val (.int p5)] [(.int (1 : Int32)), (.ref b47), (.ref b47), (.ref b39), (.ref b39)])) (fun _ k => XS.iconst X58.here hx rfl (hb hby d2_44) k) ?_
      refine Go.via (S' := T58.setTop (mkF m 46 #[.val (.int p1), .val (.int p2), .val (.int p3), .val (.int p4), .val (.int p5)] [(.int p3), (.int (1 : Int32)), (.ref b47), (.ref b47), (.ref b39), (.ref b39)])) (fun _ k => XS.iloadN X58.here hx rfl (hb hby d2_45) rfl k) ?_
      obtain ⟨c67, Ar67, q67, S67, M67, H67, G67⟩ := id V59
      obtain ⟨T67, h67, X67, e67, W67, st67⟩ := stC X58 hx hZ e58 Ar67 (j := (1 : Int32)) (inb_of S67 ⟨by decide, by decide⟩) (g := (mkF m 46 #[.val (.int p1), .val (.int p2), .val (.int p3), .val (.int p4), .val (.int p5)] [(.int p3), (.int (1 : Int32)), (.ref b47), (.ref b47), (.ref b39), (.ref b39)])) rfl rfl (hb hby d2_46)
      have V68 : Arv Z h67 b47 k47 .char (2 : Int32) [(.int (nar .char p2)), (.int (nar .char p3))] (.int (0 : Int32)) := Arv.set Ar67 q67 S67 M67 H67 G67 (fits_nar_char _) W67 1 rfl (Nat.le_of_ble_eq_true rfl)
      have N69 := Fr.snoc X67 N60 g49
      have f70 := f61.wr W67 g49
      have f71 := f62.wr W67
      have f72 := f63.other W67 (Or.inl ne48)
      have f73 := f64.other W67 (Or.inl ne48)
      have z74 := Nat.le_trans z65 (Keep.of_wr W67).1
      have K75 := K66.wr W67 (Or.inr g50)
      refine Go.via (S' := T67.setTop (mkF m 47 #[.val (.int p1), .val (.int p2), .val (.int p3), .val (.int p4), .val (.int p5)] [(.ref b47), (.ref b39), (.ref b39)])) (fun _ k => st67 _ k) ?_
      have hp76 : ∀ c ∈ ([(nar .char p2), (nar .char p3)] : List Int32), ¬ c < 0 ∧ ¬ (255 : Int32) < c := by
        intro c hc
        simp only [List.mem_cons, List.not_mem_nil, or_false] at hc
        rcases hc with rfl | rfl
        · exact (by rw [own_nar h2]; exact h2)
        · exact (by rw [own_nar h3]; exact h3)
      obtain ⟨_, _, ⟨T77, L77, k77, n77⟩, -, X77, ⟨Lc77, hQ77, l77, y77, z77⟩, st77⟩ := X67.specialBack hx (y := (⟨"java/lang/String", "<init>", "([C)V"⟩ : MethodName)) rfl hown (mvT hZ (hw _ (List.mem_of_getElem? (i := 12) rfl))) (mvT hZ (hw _ (List.mem_of_getElem? (i := 13) rfl))) (mvT hZ (hw _ (List.mem_of_getElem? (i := 14) rfl))) (by decide) (StrChars.Road.backV (W := 1) hZ hws (kI := 4) (hw _ (List.mem_of_getElem? (i := 9) rfl)) (cs := ([(nar .char p2), (nar .char p3)] : List Int32)) (bs := (([(nar .char p2), (nar .char p3)] : List Int32)).map (fun c => c.toInt8.toInt32)) (n := 2) g40 z74 f71 f73 f72 V68 (O2.ext f70.2) P5 rfl rfl (by decide) (by decide) hp76 rfl (by decide) (by decide)) (g := (mkF m 47 #[.val (.int p1), .val (.int p2), .val (.int p3), .val (.int p4), .val (.int p5)] [(.ref b47), (.ref b39), (.ref b39)])) rfl (by rw [hml]; rfl) (Steps.refl _) (a := b39) (argsL := [(.ref b47)]) (rest := [(.ref b39)]) (lenOf pd_0 rfl) rfl (by show 2 * 0 + _ ≤ _; exact Nat.le_of_eq rfl) (hb hby d2_47) (fun _ _ => ⟨rfl, e67, (by decide : 2 + 1 ≤ _), (by decide : 6 + 2 ≤ _)⟩)
      dsimp only [Pt.U, Pt.locs, Pt.cells, Pt.slots] at X77 l77 y77 z77 st77 hQ77
      subst l77 y77 z77
      obtain ⟨rfl, N77q, K77, Ee77, Fc77, t77, kb77, u177, u277, u377, Fv77, Va77⟩ := hQ77
      have N78 := Fr.app N69 N77q
      have f79 := f70.keep K77 (allS g40 all0)
      have f80 := f71.keep K77
      have f81 := V68.keep K77 (ninS (Ne.symm ne48) nin0)
      have z82 := Nat.le_trans z74 K77.1
      have K83 := K75.trans K77 (allS (Or.inr g41) all0)
      refine Go.via (S' := T77.setTop (mkF m 50 #[.val (.int p1), .val (.int p2), .val (.int p3), .val (.int p4), .val (.int p5)] [(.ref b39)])) (fun _ k => st77.trans k) ?_
      have ne84 : b47 ≠ t77 := Nat.ne_of_lt (Nat.lt_of_lt_of_le V68.lt u277)
      have g85 : h0.size ≤ t77 := Nat.le_trans K75.1 u277
      exact Go.retA X77 hx (BodyLoose.notSynchronized Bd) Bd.returns rfl rfl rfl (hb hby d2_50) ⟨_, t77, rfl, N78, K83, own_mk f80 Fv77 Fc77 Va77 hp76 rfl (Nat.le_of_ble_eq_true rfl) (by simp [own_cs, own_nar h2, own_nar h3, own_nar h4, own_nar h5, hn0, hc9, hc29])⟩ (by decide) (by decide)
    · refine Go.via (S' := s₁.setTop (mkF m 51 #[.val (.int p1), .val (.int p2), .val (.int p3), .val (.int p4), .val (.int p5)] [])) (fun _ k => XS.icmpYes X0.here hx rfl (pc0 := 29) (pc' := 51) rfl (hb hby d2_29) rfl (feq hc29).2 (by decide) (by decide) k) ?_
      refine Go.via (S' := s₁.setTop (mkF m 52 #[.val (.int p1), .val (.int p2), .val (.int p3), .val (.int p4), .val (.int p5)] [(.int p1)])) (fun _ k => XS.iloadN X0.here hx rfl (hb hby d2_51) rfl k) ?_
      refine Go.via (S' := s₁.setTop (mkF m 53 #[.val (.int p1), .val (.int p2), .val (.int p3), .val (.int p4), .val (.int p5)] [(.int (3 : Int32)), (.int p1)])) (fun _ k => XS.iconst X0.here hx rfl (hb hby d2_52) k) ?_
      rcases Decidable.em (p1 = (3 : Int32)) with hc53 | hc53
      · refine Go.via (S' := s₁.setTop (mkF m 56 #[.val (.int p1), .val (.int p2), .val (.int p3), .val (.int p4), .val (.int p5)] [])) (fun _ k => XS.icmpNo X0.here hx rfl (hb hby d2_53) rfl (teq hc53).2 k) ?_
        obtain ⟨T86, h86, X86, e86, E86, A86, D86, -, st86⟩ := newO X0 hx hZ hown (hw _ (List.mem_of_getElem? (i := 8) rfl)) (hw _ (List.mem_of_getElem? (i := 9) rfl)) (hw _ (List.mem_of_getElem? (i := 10) rfl)) e0 (g := (mkF m 56 #[.val (.int p1), .val (.int p2), .val (.int p3), .val (.int p4), .val (.int p5)] [])) rfl (hb hby d2_56) (by decide) (by decide)
        obtain ⟨b86, g86⟩ : ∃ z, z = h0.size := ⟨_, rfl⟩
        rw [← g86] at A86 D86 st86
        have g87 : n0 ≤ b86 := Nat.le_trans Z0 (Nat.le_of_eq g86.symm)
        have g88 : h0.size ≤ b86 := Nat.le_trans (Keep.refl h0 []).1 (Nat.le_of_eq g86.symm)
        have f89 := X00.ext E86
        have z90 := Nat.le_trans Z0 E86.1
        have K91 := (Keep.refl h0 []).ext E86
        have F92 : Fld Z h86 b86 "java/lang/String" "coder" "B" (.int (0 : Int32)) := D86 (Or.inr (hw _ (List.mem_of_getElem? (i := 35) rfl))) (ty := .byte) (by decide)
        have F93 : Fld Z h86 b86 "java/lang/String" "value" "[B" .null := D86 (Or.inr (hw _ (List.mem_of_getElem? (i := 37) rfl))) (ty := (.array .byte)) (by decide)
        refine Go.via (S' := T86.setTop (mkF m 59 #[.val (.int p1), .val (.int p2), .val (.int p3), .val (.int p4), .val (.int p5)] [(.ref b86)])) (fun _ k => st86 _ k) ?_
        refine Go.via (S' := T86.setTop (mkF m 60 #[.val (.int p1), .val (.int p2), .val (.int p3), .val (.int p4), .val (.int p5)] [(.ref b86), (.ref b86)])) (fun _ k => XS.dup X86.here hx rfl (hb hby d2_59) rfl rfl k) ?_
        refine Go.via (S' := T86.setTop (mkF m 61 #[.val (.int p1), .val (.int p2), .val (.int p3), .val (.int p4), .val (.int p5)] [(.int (3 : Int32)), (.ref b86), (.ref b86)])) (fun _ k => XS.iconst X86.here hx rfl (hb hby d2_60) k) ?_
        obtain ⟨T94, h94, k94, X94, e94, E94, A94, st94⟩ := newP X86 hx hZ (hw _ (List.mem_of_getElem? (i := 11) rfl)) e86 (g := (mkF m 61 #[.val (.int p1), .val (.int p2), .val (.int p3), .val (.int p4), .val (.int p5)] [(.int (3 : Int32)), (.ref b86), (.ref b86)])) rfl (hb hby d2_61) rfl (by decide) (cap := 3) (by decide) (by decide) (by decide) (by decide)
        obtain ⟨b94, g94⟩ : ∃ z, z = h86.size := ⟨_, rfl⟩
        rw [← g94] at A94 st94
        have ne95 : b86 ≠ b94 := Nat.ne_of_lt (Nat.lt_of_lt_of_le A86.lt (Nat.le_of_eq g94.symm))
        have g96 : n0 ≤ b94 := Nat.le_trans z90 (Nat.le_of_eq g94.symm)
        have g97 : h0.size ≤ b94 := Nat.le_trans K91.1 (Nat.le_of_eq g94.symm)
        have f98 := f89.ext E94
        have f99 := A86.ext E94
        have f100 := F92.ext E94
        have f101 := F93.ext E94
        have z102 := Nat.le_trans z90 E94.1
        have K103 := K91.ext E94
        have V104 : Arv Z h94 b94 k94 .char (3 : Int32) [(.int (0 : Int32)), (.int (0 : Int32)), (.int (0 : Int32))] (.int (0 : Int32)) := (Arv.new A94 (by decide)).pad (pad_rep [] (.int (0 : Int32)) 3)
        refine Go.via (S' := T94.setTop (mkF m 63 #[.val (.int p1), .val (.int p2), .val (.int p3), .val (.int p4), .val (.int p5)] [(.ref b94), (.ref b86), (.ref b86)])) (fun _ k => st94 _ k) ?_
        refine Go.via (S' := T94.setTop (mkF m 64 #[.val (.int p1), .val (.int p2), .val (.int p3), .val (.int p4), .val (.int p5)] [(.ref b94), (.ref b94), (.ref b86), (.ref b86)])) (fun _ k => XS.dup X94.here hx rfl (hb hby d2_63) rfl rfl k) ?_
        refine Go.via (S' := T94.setTop (mkF m 65 #[.val (.int p1), .val (.int p2), .val (.int p3), .val (.int p4), .val (.int p5)] [(.int (0 : Int32)), (.ref b94), (.ref b94), (.ref b86), (.ref b86)])) (fun _ k => XS.iconst X94.here hx rfl (hb hby d2_64) k) ?_
        refine Go.via (S' := T94.setTop (mkF m 66 #[.val (.int p1), .val (.int p2), .val (.int p3), .val (.int p4), .val (.int p5)] [(.int p2), (.int (0 : Int32)), (.ref b94), (.ref b94), (.ref b86), (.ref b86)])) (fun _ k => XS.iloadN X94.here hx rfl (hb hby d2_65) rfl k) ?_
        obtain ⟨c105, Ar105, q105, S105, M105, H105, G105⟩ := id V104
        obtain ⟨T105, h105, X105, e105, W105, st105⟩ := stC X94 hx hZ e94 Ar105 (j := (0 : Int32)) (inb_of S105 ⟨by decide, by decide⟩) (g := (mkF m 66 #[.val (.int p1), .val (.int p2), .val (.int p3), .val (.int p4), .val (.int p5)] [(.int p2), (.int (0 : Int32)), (.ref b94), (.ref b94), (.ref b86), (.ref b86)])) rfl rfl (hb hby d2_66)
        have V106 : Arv Z h105 b94 k94 .char (3 : Int32) [(.int (nar .char p2)), (.int (0 : Int32)), (.int (0 : Int32))] (.int (0 : Int32)) := Arv.set Ar105 q105 S105 M105 H105 G105 (fits_nar_char _) W105 0 rfl (Nat.le_of_ble_eq_true rfl)
        have N107 := Fr.snoc X105 N0 g96
        have f108 := f98.wr W105 g96
        have f109 := f99.wr W105
        have f110 := f100.other W105 (Or.inl ne95)
        have f111 := f101.other W105 (Or.inl ne95)
        have z112 := Nat.le_trans z102 (Keep.of_wr W105).1
        have K113 := K103.wr W105 (Or.inr g97)
        refine Go.via (S' := T105.setTop (mkF m 67 #[.val (.int p1), .val (.int p2), .val (.int p3), .val (.int p4), .val (.int p5)] [(.ref b94), (.ref b86), (.ref b86)])) (fun _ k => st105 _ k) ?_
        refine Go.via (S' := T105.setTop (mkF m 68 #[.val (.int p1), .val (.int p2), .val (.int p3), .val (.int p4), .val (.int p5)] [(.ref b94), (.ref b94), (.ref b86), (.ref b86)])) (fun _ k => XS.dup X105.here hx rfl (hb hby d2_67) rfl rfl k) ?_
        refine Go.via (S' := T105.setTop (mkF m 69 #[.val (.int p1), .val (.int p2), .val (.int p3), .val (.int p4), .val (.int p5)] [(.int (1 : Int32)), (.ref b94), (.ref b94), (.ref b86), (.ref b86)])) (fun _ k => XS.iconst X105.here hx rfl (hb hby d2_68) k) ?_
        refine Go.via (S' := T105.setTop (mkF m 70 #[.val (.int p1), .val (.int p2), .val (.int p3), .val (.int p4), .val (.int p5)] [(.int p3), (.int (1 : Int32)), (.ref b94), (.ref b94), (.ref b86), (.ref b86)])) (fun _ k => XS.iloadN X105.here hx rfl (hb hby d2_69) rfl k) ?_
        obtain ⟨c114, Ar114, q114, S114, M114, H114, G114⟩ := id V106
        obtain ⟨T114, h114, X114, e114, W114, st114⟩ := stC X105 hx hZ e105 Ar114 (j := (1 : Int32)) (inb_of S114 ⟨by decide, by decide⟩) (g := (mkF m 70 #[.val (.int p1), .val (.int p2), .val (.int p3), .val (.int p4), .val (.int p5)] [(.int p3), (.int (1 : Int32)), (.ref b94), (.ref b94), (.ref b86), (.ref b86)])) rfl rfl (hb hby d2_70)
        have V115 : Arv Z h114 b94 k94 .char (3 : Int32) [(.int (nar .char p2)), (.int (nar .char p3)), (.int (0 : Int32))] (.int (0 : Int32)) := Arv.set Ar114 q114 S114 M114 H114 G114 (fits_nar_char _) W114 1 rfl (Nat.le_of_ble_eq_true rfl)
        have N116 := Fr.snoc X114 N107 g96
        have f117 := f108.wr W114 g96
        have f118 := f109.wr W114
        have f119 := f110.other W114 (Or.inl ne95)
        have f120 := f111.other W114 (Or.inl ne95)
        have z121 := Nat.le_trans z112 (Keep.of_wr W114).1
        have K122 := K113.wr W114 (Or.inr g97)
        refine Go.via (S' := T114.setTop (mkF m 71 #[.val (.int p1), .val (.int p2), .val (.int p3), .val (.int p4), .val (.int p5)] [(.ref b94), (.ref b86), (.ref b86)])) (fun _ k => st114 _ k) ?_
        refine Go.via (S' := T114.setTop (mkF m 72 #[.val (.int p1), .val (.int p2), .val (.int p3), .val (.int p4), .val (.int p5)] [(.ref b94), (.ref b94), (.ref b86), (.ref b86)])) (fun _ k => XS.dup X114.here hx rfl (hb hby d2_71) rfl rfl k) ?_
        refine Go.via (S' := T114.setTop (mkF m 73 #[.val (.int p1), .val (.int p2), .val (.int p3), .val (.int p4), .val (.int p5)] [(.int (2 : Int32)), (.ref b94), (.ref b94), (.ref b86), (.ref b86)])) (fun _ k => XS.iconst X114.here hx rfl (hb hby d2_72) k) ?_
        refine Go.via (S' := T114.setTop (mkF m 74 #[.val (.int p1), .val (.int p2), .val (.int p3), .val (.int p4), .val (.int p5)] [(.int p4), (.int (2 : Int32)), (.ref b94), (.ref b94), (.ref b86), (.ref b86)])) (fun _ k => XS.iloadN X114.here hx rfl (hb hby d2_73) rfl k) ?_
        obtain ⟨c123, Ar123, q123, S123, M123, H123, G123⟩ := id V115
        obtain ⟨T123, h123, X123, e123, W123, st123⟩ := stC X114 hx hZ e114 Ar123 (j := (2 : Int32)) (inb_of S123 ⟨by decide, by decide⟩) (g := (mkF m 74 #[.val (.int p1), .val (.int p2), .val (.int p3), .val (.int p4), .val (.int p5)] [(.int p4), (.int (2 : Int32)), (.ref b94), (.ref b94), (.ref b86), (.ref b86)])) rfl rfl (hb hby d2_74)
        have V124 : Arv Z h123 b94 k94 .char (3 : Int32) [(.int (nar .char p2)), (.int (nar .char p3)), (.int (nar .char p4))] (.int (0 : Int32)) := Arv.set Ar123 q123 S123 M123 H123 G123 (fits_nar_char _) W123 2 rfl (Nat.le_of_ble_eq_true rfl)
        have N125 := Fr.snoc X123 N116 g96
        have f126 := f117.wr W123 g96
        have f127 := f118.wr W123
        have f128 := f119.other W123 (Or.inl ne95)
        have f129 := f120.other W123 (Or.inl ne95)
        have z130 := Nat.le_trans z121 (Keep.of_wr W123).1
        have K131 := K122.wr W123 (Or.inr g97)
        refine Go.via (S' := T123.setTop (mkF m 75 #[.val (.int p1), .val (.int p2), .val (.int p3), .val (.int p4), .val (.int p5)] [(.ref b94), (.ref b86), (.ref b86)])) (fun _ k => st123 _ k) ?_
        have hp132 : ∀ c ∈ ([(nar .char p2), (nar .char p3), (nar .char p4)] : List Int32), ¬ c < 0 ∧ ¬ (255 : Int32) < c := by
          intro c hc
          simp only [List.mem_cons, List.not_mem_nil, or_false] at hc
          rcases hc with rfl | rfl | rfl
          · exact (by rw [own_nar h2]; exact h2)
          · exact (by rw [own_nar h3]; exact h3)
          · exact (by rw [own_nar h4]; exact h4)
        obtain ⟨_, _, ⟨T133, L133, k133, n133⟩, -, X133, ⟨Lc133, hQ133, l133, y133, z133⟩, st133⟩ := X123.specialBack hx (y := (⟨"java/lang/String", "<init>", "([C)V"⟩ : MethodName)) rfl hown (mvT hZ (hw _ (List.mem_of_getElem? (i := 12) rfl))) (mvT hZ (hw _ (List.mem_of_getElem? (i := 13) rfl))) (mvT hZ (hw _ (List.mem_of_getElem? (i := 14) rfl))) (by decide) (StrChars.Road.backV (W := 1) hZ hws (kI := 4) (hw _ (List.mem_of_getElem? (i := 9) rfl)) (cs := ([(nar .char p2), (nar .char p3), (nar .char p4)] : List Int32)) (bs := (([(nar .char p2), (nar .char p3), (nar .char p4)] : List Int32)).map (fun c => c.toInt8.toInt32)) (n := 3) g87 z130 f127 f129 f128 V124 (O2.ext f126.2) P5 rfl rfl (by decide) (by decide) hp132 rfl (by decide) (by decide)) (g := (mkF m 75 #[.val (.int p1), .val (.int p2), .val (.int p3), .val (.int p4), .val (.int p5)] [(.ref b94), (.ref b86), (.ref b86)])) rfl (by rw [hml]; rfl) (Steps.refl _) (a := b86) (argsL := [(.ref b94)]) (rest := [(.ref b86)]) (lenOf pd_0 rfl) rfl (by show 2 * 0 + _ ≤ _; exact Nat.le_of_eq rfl) (hb hby d2_75) (fun _ _ => ⟨rfl, e123, (by decide : 2 + 1 ≤ _), (by decide : 7 + 3 ≤ _)⟩)
        dsimp only [Pt.U, Pt.locs, Pt.cells, Pt.slots] at X133 l133 y133 z133 st133 hQ133
        subst l133 y133 z133
        obtain ⟨rfl, N133q, K133, Ee133, Fc133, t133, kb133, u1133, u2133, u3133, Fv133, Va133⟩ := hQ133
        have N134 := Fr.app N125 N133q
        have f135 := f126.keep K133 (allS g87 all0)
        have f136 := f127.keep K133
        have f137 := V124.keep K133 (ninS (Ne.symm ne95) nin0)
        have z138 := Nat.le_trans z130 K133.1
        have K139 := K131.trans K133 (allS (Or.inr g88) all0)
        refine Go.via (S' := T133.setTop (mkF m 78 #[.val (.int p1), .val (.int p2), .val (.int p3), .val (.int p4), .val (.int p5)] [(.ref b86)])) (fun _ k => st133.trans k) ?_
        have ne140 : b94 ≠ t133 := Nat.ne_of_lt (Nat.lt_of_lt_of_le V124.lt u2133)
        have g141 : h0.size ≤ t133 := Nat.le_trans K131.1 u2133
        exact Go.retA X133 hx (BodyLoose.notSynchronized Bd) Bd.returns rfl rfl rfl (hb hby d2_78) ⟨_, t133, rfl, N134, K139, own_mk f136 Fv133 Fc133 Va133 hp132 rfl (Nat.le_of_ble_eq_true rfl) (by simp [own_cs, own_nar h2, own_nar h3, own_nar h4, own_nar h5, hn0, hc9, hc29, hc53])⟩ (by decide) (by decide)
      · refine Go.via (S' := s₁.setTop (mkF m 79 #[.val (.int p1), .val (.int p2), .val (.int p3), .val (.int p4), .val (.int p5)] [])) (fun _ k => XS.icmpYes X0.here hx rfl (pc0 := 53) (pc' := 79) rfl (hb hby d2_53) rfl (feq hc53).2 (by decide) (by decide) k) ?_
        obtain ⟨T142, h142, X142, e142, E142, A142, D142, -, st142⟩ := newO X0 hx hZ hown (hw _ (List.mem_of_getElem? (i := 8) rfl)) (hw _ (List.mem_of_getElem? (i := 9) rfl)) (hw _ (List.mem_of_getElem? (i := 10) rfl)) e0 (g := (mkF m 79 #[.val (.int p1), .val (.int p2), .val (.int p3), .val (.int p4), .val (.int p5)] [])) rfl (hb hby d2_79) (by decide) (by decide)
        obtain ⟨b142, g142⟩ : ∃ z, z = h0.size := ⟨_, rfl⟩
        rw [← g142] at A142 D142 st142
        have g143 : n0 ≤ b142 := Nat.le_trans Z0 (Nat.le_of_eq g142.symm)
        have g144 : h0.size ≤ b142 := Nat.le_trans (Keep.refl h0 []).1 (Nat.le_of_eq g142.symm)
        have f145 := X00.ext E142
        have z146 := Nat.le_trans Z0 E142.1
        have K147 := (Keep.refl h0 []).ext E142
        have F148 : Fld Z h142 b142 "java/lang/String" "coder" "B" (.int (0 : Int32)) := D142 (Or.inr (hw _ (List.mem_of_getElem? (i := 35) rfl))) (ty := .byte) (by decide)
        have F149 : Fld Z h142 b142 "java/lang/String" "value" "[B" .null := D142 (Or.inr (hw _ (List.mem_of_getElem? (i := 37) rfl))) (ty := (.array .byte)) (by decide)
        refine Go.via (S' := T142.setTop (mkF m 82 #[.val (.int p1), .val (.int p2), .val (.int p3), .val (.int p4), .val (.int p5)] [(.ref b142)])) (fun _ k => st142 _ k) ?_
        refine Go.via (S' := T142.setTop (mkF m 83 #[.val (.int p1), .val (.int p2), .val (.int p3), .val (.int p4), .val (.int p5)] [(.ref b142), (.ref b142)])) (fun _ k => XS.dup X142.here hx rfl (hb hby d2_82) rfl rfl k) ?_
        refine Go.via (S' := T142.setTop (mkF m 84 #[.val (.int p1), .val (.int p2), .val (.int p3), .val (.int p4), .val (.int p5)] [(.int (4 : Int32)), (.ref b142), (.ref b142)])) (fun _ k => XS.iconst X142.here hx rfl (hb hby d2_83) k) ?_
        obtain ⟨T150, h150, k150, X150, e150, E150, A150, st150⟩ := newP X142 hx hZ (hw _ (List.mem_of_getElem? (i := 11) rfl)) e142 (g := (mkF m 84 #[.val (.int p1), .val (.int p2), .val (.int p3), .val (.int p4), .val (.int p5)] [(.int (4 : Int32)), (.ref b142), (.ref b142)])) rfl (hb hby d2_84) rfl (by decide) (cap := 4) (by decide) (by decide) (by decide) (by decide)
        obtain ⟨b150, g150⟩ : ∃ z, z = h142.size := ⟨_, rfl⟩
        rw [← g150] at A150 st150
        have ne151 : b142 ≠ b150 := Nat.ne_of_lt (Nat.lt_of_lt_of_le A142.lt (Nat.le_of_eq g150.symm))
        have g152 : n0 ≤ b150 := Nat.le_trans z146 (Nat.le_of_eq g150.symm)
        have g153 : h0.size ≤ b150 := Nat.le_trans K147.1 (Nat.le_of_eq g150.symm)
        have f154 := f145.ext E150
        have f155 := A142.ext E150
        have f156 := F148.ext E150
        have f157 := F149.ext E150
        have z158 := Nat.le_trans z146 E150.1
        have K159 := K147.ext E150
        have V160 : Arv Z h150 b150 k150 .char (4 : Int32) [(.int (0 : Int32)), (.int (0 : Int32)), (.int (0 : Int32)), (.int (0 : Int32))] (.int (0 : Int32)) := (Arv.new A150 (by decide)).pad (pad_rep [] (.int (0 : Int32)) 4)
        refine Go.via (S' := T150.setTop (mkF m 86 #[.val (.int p1), .val (.int p2), .val (.int p3), .val (.int p4), .val (.int p5)] [(.ref b150), (.ref b142), (.ref b142)])) (fun _ k => st150 _ k) ?_
        refine Go.via (S' := T150.setTop (mkF m 87 #[.val (.int p1), .val (.int p2), .val (.int p3), .val (.int p4), .val (.int p5)] [(.ref b150), (.ref b150), (.ref b142), (.ref b142)])) (fun _ k => XS.dup X150.here hx rfl (hb hby d2_86) rfl rfl k) ?_
        refine Go.via (S' := T150.setTop (mkF m 88 #[.val (.int p1), .val (.int p2), .val (.int p3), .val (.int p4), .val (.int p5)] [(.int (0 : Int32)), (.ref b150), (.ref b150), (.ref b142), (.ref b142)])) (fun _ k => XS.iconst X150.here hx rfl (hb hby d2_87) k) ?_
        refine Go.via (S' := T150.setTop (mkF m 89 #[.val (.int p1), .val (.int p2), .val (.int p3), .val (.int p4), .val (.int p5)] [(.int p2), (.int (0 : Int32)), (.ref b150), (.ref b150), (.ref b142), (.ref b142)])) (fun _ k => XS.iloadN X150.here hx rfl (hb hby d2_88) rfl k) ?_
        obtain ⟨c161, Ar161, q161, S161, M161, H161, G161⟩ := id V160
        obtain ⟨T161, h161, X161, e161, W161, st161⟩ := stC X150 hx hZ e150 Ar161 (j := (0 : Int32)) (inb_of S161 ⟨by decide, by decide⟩) (g := (mkF m 89 #[.val (.int p1), .val (.int p2), .val (.int p3), .val (.int p4), .val (.int p5)] [(.int p2), (.int (0 : Int32)), (.ref b150), (.ref b150), (.ref b142), (.ref b142)])) rfl rfl (hb hby d2_89)
        have V162 : Arv Z h161 b150 k150 .char (4 : Int32) [(.int (nar .char p2)), (.int (0 : Int32)), (.int (0 : Int32)), (.int (0 : Int32))] (.int (0 : Int32)) := Arv.set Ar161 q161 S161 M161 H161 G161 (fits_nar_char _) W161 0 rfl (Nat.le_of_ble_eq_true rfl)
        have N163 := Fr.snoc X161 N0 g152
        have f164 := f154.wr W161 g152
        have f165 := f155.wr W161
        have f166 := f156.other W161 (Or.inl ne151)
        have f167 := f157.other W161 (Or.inl ne151)
        have z168 := Nat.le_trans z158 (Keep.of_wr W161).1
        have K169 := K159.wr W161 (Or.inr g153)
        refine Go.via (S' := T161.setTop (mkF m 90 #[.val (.int p1), .val (.int p2), .val (.int p3), .val (.int p4), .val (.int p5)] [(.ref b150), (.ref b142), (.ref b142)])) (fun _ k => st161 _ k) ?_
        refine Go.via (S' := T161.setTop (mkF m 91 #[.val (.int p1), .val (.int p2), .val (.int p3), .val (.int p4), .val (.int p5)] [(.ref b150), (.ref b150), (.ref b142), (.ref b142)])) (fun _ k => XS.dup X161.here hx rfl (hb hby d2_90) rfl rfl k) ?_
        refine Go.via (S' := T161.setTop (mkF m 92 #[.val (.int p1), .val (.int p2), .val (.int p3), .val (.int p4), .val (.int p5)] [(.int (1 : Int32)), (.ref b150), (.ref b150), (.ref b142), (.ref b142)])) (fun _ k => XS.iconst X161.here hx rfl (hb hby d2_91) k) ?_
        refine Go.via (S' := T161.setTop (mkF m 93 #[.val (.int p1), .val (.int p2), .val (.int p3), .val (.int p4), .val (.int p5)] [(.int p3), (.int (1 : Int32)), (.ref b150), (.ref b150), (.ref b142), (.ref b142)])) (fun _ k => XS.iloadN X161.here hx rfl (hb hby d2_92) rfl k) ?_
        obtain ⟨c170, Ar170, q170, S170, M170, H170, G170⟩ := id V162
        obtain ⟨T170, h170, X170, e170, W170, st170⟩ := stC X161 hx hZ e161 Ar170 (j := (1 : Int32)) (inb_of S170 ⟨by decide, by decide⟩) (g := (mkF m 93 #[.val (.int p1), .val (.int p2), .val (.int p3), .val (.int p4), .val (.int p5)] [(.int p3), (.int (1 : Int32)), (.ref b150), (.ref b150), (.ref b142), (.ref b142)])) rfl rfl (hb hby d2_93)
        have V171 : Arv Z h170 b150 k150 .char (4 : Int32) [(.int (nar .char p2)), (.int (nar .char p3)), (.int (0 : Int32)), (.int (0 : Int32))] (.int (0 : Int32)) := Arv.set Ar170 q170 S170 M170 H170 G170 (fits_nar_char _) W170 1 rfl (Nat.le_of_ble_eq_true rfl)
        have N172 := Fr.snoc X170 N163 g152
        have f173 := f164.wr W170 g152
        have f174 := f165.wr W170
        have f175 := f166.other W170 (Or.inl ne151)
        have f176 := f167.other W170 (Or.inl ne151)
        have z177 := Nat.le_trans z168 (Keep.of_wr W170).1
        have K178 := K169.wr W170 (Or.inr g153)
        refine Go.via (S' := T170.setTop (mkF m 94 #[.val (.int p1), .val (.int p2), .val (.int p3), .val (.int p4), .val (.int p5)] [(.ref b150), (.ref b142), (.ref b142)])) (fun _ k => st170 _ k) ?_
        refine Go.via (S' := T170.setTop (mkF m 95 #[.val (.int p1), .val (.int p2), .val (.int p3), .val (.int p4), .val (.int p5)] [(.ref b150), (.ref b150), (.ref b142), (.ref b142)])) (fun _ k => XS.dup X170.here hx rfl (hb hby d2_94) rfl rfl k) ?_
        refine Go.via (S' := T170.setTop (mkF m 96 #[.val (.int p1), .val (.int p2), .val (.int p3), .val (.int p4), .val (.int p5)] [(.int (2 : Int32)), (.ref b150), (.ref b150), (.ref b142), (.ref b142)])) (fun _ k => XS.iconst X170.here hx rfl (hb hby d2_95) k) ?_
        refine Go.via (S' := T170.setTop (mkF m 97 #[.val (.int p1), .val (.int p2), .val (.int p3), .val (.int p4), .val (.int p5)] [(.int p4), (.int (2 : Int32)), (.ref b150), (.ref b150), (.ref b142), (.ref b142)])) (fun _ k => XS.iloadN X170.here hx rfl (hb hby d2_96) rfl k) ?_
        obtain ⟨c179, Ar179, q179, S179, M179, H179, G179⟩ := id V171
        obtain ⟨T179, h179, X179, e179, W179, st179⟩ := stC X170 hx hZ e170 Ar179 (j := (2 : Int32)) (inb_of S179 ⟨by decide, by decide⟩) (g := (mkF m 97 #[.val (.int p1), .val (.int p2), .val (.int p3), .val (.int p4), .val (.int p5)] [(.int p4), (.int (2 : Int32)), (.ref b150), (.ref b150), (.ref b142), (.ref b142)])) rfl rfl (hb hby d2_97)
        have V180 : Arv Z h179 b150 k150 .char (4 : Int32) [(.int (nar .char p2)), (.int (nar .char p3)), (.int (nar .char p4)), (.int (0 : Int32))] (.int (0 : Int32)) := Arv.set Ar179 q179 S179 M179 H179 G179 (fits_nar_char _) W179 2 rfl (Nat.le_of_ble_eq_true rfl)
        have N181 := Fr.snoc X179 N172 g152
        have f182 := f173.wr W179 g152
        have f183 := f174.wr W179
        have f184 := f175.other W179 (Or.inl ne151)
        have f185 := f176.other W179 (Or.inl ne151)
        have z186 := Nat.le_trans z177 (Keep.of_wr W179).1
        have K187 := K178.wr W179 (Or.inr g153)
        refine Go.via (S' := T179.setTop (mkF m 98 #[.val (.int p1), .val (.int p2), .val (.int p3), .val (.int p4), .val (.int p5)] [(.ref b150), (.ref b142), (.ref b142)])) (fun _ k => st179 _ k) ?_
        refine Go.via (S' := T179.setTop (mkF m 99 #[.val (.int p1), .val (.int p2), .val (.int p3), .val (.int p4), .val (.int p5)] [(.ref b150), (.ref b150), (.ref b142), (.ref b142)])) (fun _ k => XS.dup X179.here hx rfl (hb hby d2_98) rfl rfl k) ?_
        refine Go.via (S' := T179.setTop (mkF m 100 #[.val (.int p1), .val (.int p2), .val (.int p3), .val (.int p4), .val (.int p5)] [(.int (3 : Int32)), (.ref b150), (.ref b150), (.ref b142), (.ref b142)])) (fun _ k => XS.iconst X179.here hx rfl (hb hby d2_99) k) ?_
        refine Go.via (S' := T179.setTop (mkF m 102 #[.val (.int p1), .val (.int p2), .val (.int p3), .val (.int p4), .val (.int p5)] [(.int p5), (.int (3 : Int32)), (.ref b150), (.ref b150), (.ref b142), (.ref b142)])) (fun _ k => XS.iload X179.here hx rfl (hb hby d2_100) rfl k) ?_
        obtain ⟨c188, Ar188, q188, S188, M188, H188, G188⟩ := id V180
        obtain ⟨T188, h188, X188, e188, W188, st188⟩ := stC X179 hx hZ e179 Ar188 (j := (3 : Int32)) (inb_of S188 ⟨by decide, by decide⟩) (g := (mkF m 102 #[.val (.int p1), .val (.int p2), .val (.int p3), .val (.int p4), .val (.int p5)] [(.int p5), (.int (3 : Int32)), (.ref b150), (.ref b150), (.ref b142), (.ref b142)])) rfl rfl (hb hby d2_102)
        have V189 : Arv Z h188 b150 k150 .char (4 : Int32) [(.int (nar .char p2)), (.int (nar .char p3)), (.int (nar .char p4)), (.int (nar .char p5))] (.int (0 : Int32)) := Arv.set Ar188 q188 S188 M188 H188 G188 (fits_nar_char _) W188 3 rfl (Nat.le_of_ble_eq_true rfl)
        have N190 := Fr.snoc X188 N181 g152
        have f191 := f182.wr W188 g152
        have f192 := f183.wr W188
        have f193 := f184.other W188 (Or.inl ne151)
        have f194 := f185.other W188 (Or.inl ne151)
        have z195 := Nat.le_trans z186 (Keep.of_wr W188).1
        have K196 := K187.wr W188 (Or.inr g153)
        refine Go.via (S' := T188.setTop (mkF m 103 #[.val (.int p1), .val (.int p2), .val (.int p3), .val (.int p4), .val (.int p5)] [(.ref b150), (.ref b142), (.ref b142)])) (fun _ k => st188 _ k) ?_
        have hp197 : ∀ c ∈ ([(nar .char p2), (nar .char p3), (nar .char p4), (nar .char p5)] : List Int32), ¬ c < 0 ∧ ¬ (255 : Int32) < c := by
          intro c hc
          simp only [List.mem_cons, List.not_mem_nil, or_false] at hc
          rcases hc with rfl | rfl | rfl | rfl
          · exact (by rw [own_nar h2]; exact h2)
          · exact (by rw [own_nar h3]; exact h3)
          · exact (by rw [own_nar h4]; exact h4)
          · exact (by rw [own_nar h5]; exact h5)
        obtain ⟨_, _, ⟨T198, L198, k198, n198⟩, -, X198, ⟨Lc198, hQ198, l198, y198, z198⟩, st198⟩ := X188.specialBack hx (y := (⟨"java/lang/String", "<init>", "([C)V"⟩ : MethodName)) rfl hown (mvT hZ (hw _ (List.mem_of_getElem? (i := 12) rfl))) (mvT hZ (hw _ (List.mem_of_getElem? (i := 13) rfl))) (mvT hZ (hw _ (List.mem_of_getElem? (i := 14) rfl))) (by decide) (StrChars.Road.backV (W := 1) hZ hws (kI := 4) (hw _ (List.mem_of_getElem? (i := 9) rfl)) (cs := ([(nar .char p2), (nar .char p3), (nar .char p4), (nar .char p5)] : List Int32)) (bs := (([(nar .char p2), (nar .char p3), (nar .char p4), (nar .char p5)] : List Int32)).map (fun c => c.toInt8.toInt32)) (n := 4) g143 z195 f192 f194 f193 V189 (O2.ext f191.2) P5 rfl rfl (by decide) (by decide) hp197 rfl (by decide) (by decide)) (g := (mkF m 103 #[.val (.int p1), .val (.int p2), .val (.int p3), .val (.int p4), .val (.int p5)] [(.ref b150), (.ref b142), (.ref b142)])) rfl (by rw [hml]; rfl) (Steps.refl _) (a := b142) (argsL := [(.ref b150)]) (rest := [(.ref b142)]) (lenOf pd_0 rfl) rfl (by show 2 * 0 + _ ≤ _; exact Nat.le_of_eq rfl) (hb hby d2_103) (fun _ _ => ⟨rfl, e188, (by decide : 2 + 1 ≤ _), (by decide : 8 + 4 ≤ _)⟩)
        dsimp only [Pt.U, Pt.locs, Pt.cells, Pt.slots] at X198 l198 y198 z198 st198 hQ198
        subst l198 y198 z198
        obtain ⟨rfl, N198q, K198, Ee198, Fc198, t198, kb198, u1198, u2198, u3198, Fv198, Va198⟩ := hQ198
        have N199 := Fr.app N190 N198q
        have f200 := f191.keep K198 (allS g143 all0)
        have f201 := f192.keep K198
        have f202 := V189.keep K198 (ninS (Ne.symm ne151) nin0)
        have z203 := Nat.le_trans z195 K198.1
        have K204 := K196.trans K198 (allS (Or.inr g144) all0)
        refine Go.via (S' := T198.setTop (mkF m 106 #[.val (.int p1), .val (.int p2), .val (.int p3), .val (.int p4), .val (.int p5)] [(.ref b142)])) (fun _ k => st198.trans k) ?_
        have ne205 : b150 ≠ t198 := Nat.ne_of_lt (Nat.lt_of_lt_of_le V189.lt u2198)
        have g206 : h0.size ≤ t198 := Nat.le_trans K196.1 u2198
        exact Go.retA X198 hx (BodyLoose.notSynchronized Bd) Bd.returns rfl rfl rfl (hb hby d2_106) ⟨_, t198, rfl, N199, K204, own_mk f201 Fv198 Fc198 Va198 hp197 rfl (Nat.le_of_ble_eq_true rfl) (by simp [own_cs, own_nar h2, own_nar h3, own_nar h4, own_nar h5, hn0, hc9, hc29, hc53])⟩ (by decide) (by decide)
theorem d2_4 : decode method_4_code 4 = .ok (.ldc 37, 2) := by decide +kernel
theorem d2_6 : decode method_4_code 6 = .ok (.areturn, 1) := by decide +kernel
theorem ef_2z (m : MethodId) (x0 : Int32) (x1 : Int32) (x2 : Int32) (x3 : Int32) (x4 : Int32) : entryFrame m #[(.int x0), (.int x1), (.int x2), (.int x3), (.int x4)] 5 = mkF m 0 #[.val (.int x0), .val (.int x1), .val (.int x2), .val (.int x3), .val (.int x4)] [] := by first | (simp [entryFrame, mkF, argsToLocals, Value.category]; done) | rfl
def Q2z (Z : State) (p1 : Int32) (p2 : Int32) (p3 : Int32) (p4 : Int32) (p5 : Int32) (h0 : Heap) (n0 : Nat) (v : Option Value) (h : Heap) (L : List Loc) : Prop := ∃ r t : Addr, v = some (.ref r) ∧ Fr n0 L ∧ Keep h0 h [] ∧ own_LS Z h r t (own_cs p1 p2 p3 p4 p5)
set_option maxRecDepth 65536 in
set_option maxHeartbeats 40000000 in
theorem rm2z (l : Launch) (Z : State) (a0 : Array Value) (hw : ∀ d ∈ tables_1, d.before a0 Z = true) (ws : List Jvm.Cond) (p1 : Int32) (p2 : Int32) (p3 : Int32) (p4 : Int32) (p5 : Int32) (h0 : Heap) (n0 : Nat) (Z0 : n0 ≤ h0.size) (X00 : Old Z n0 h0) (hz0 : p1 = (0 : Int32)) (hch : Jvm.Lit.constHeld Z "com/example/amendatory/amendatory/ProvisionNameIsSectionPinLaw" 37) (hcw : Jvm.Lit.compactW.before a0 Z = true) :
    MetFree l (⟨"com/example/amendatory/amendatory/ProvisionNameIsSectionPinLaw", "make", "(ICCCC)Ljava/lang/String;"⟩ : MethodName) (head1 (Jvm.Cond.code (⟨"com/example/amendatory/amendatory/ProvisionNameIsSectionPinLaw", "make", "(ICCCC)Ljava/lang/String;"⟩ : MethodName) method_4_code 5 (some (.object "java/lang/String")) :: ws) ({ frames := 0, cells := 2, slots := 4, locals := 0 } : Room)) (fun a U => a = #[(.int p1), (.int p2), (.int p3), (.int p4), (.int p5)] ∧ Z.Warmed39 U.vm ∧ U.heap = h0 ∧ U.vm.interned = Z.vm.interned) (fun _ _ _ _ _ => True) (fun _ U o U' => ∃ v L, o = .returned v ∧ Q2z Z p1 p2 p3 p4 p5 h0 n0 v U'.heap L ∧ ReturnedEndW U o U' L ({ frames := 0, cells := 2, slots := 4, locals := 0 } : Room).cells ({ frames := 0, cells := 2, slots := 4, locals := 0 } : Room).slots) := by
  refine MetFree.of_bodySF (plainFor_of_name pn_0) hisR ?_
  intro p e s m args below meth c s₁ Bd hml0 hP hK
  obtain ⟨rfl, hZ, hh, hI⟩ := hP
  have hx := Bd.exec
  have hby := Bd.bytes
  have hml : c.maxLocals = 5 := hml0
  have hown : s.vm.findClass "com/example/amendatory/amendatory/ProvisionNameIsSectionPinLaw" = some m.cls := findClass_of_methodNamed Bd.named
  have hnm := (name_of_methodNamed Bd.named Bd.method).1
  have X0 : Stand p l e ({ frames := 0, cells := 2, slots := 4, locals := 0 } : Room) (s.setVm s.vm) m #[(.int p1), (.int p2), (.int p3), (.int p4), (.int p5)] below meth c s₁ [] 0 0 := Stand.of_body Bd
  have e0 : s₁.heap = h0 := by rw [← hh, Bd.state]; rfl
  have N0 := Fr.nil n0
  have hwS : ∀ a ∈ Bundle.stringAtoms, a.before a0 Z = true := fun d hd => hw d ((by decide +kernel : ∀ d ∈ Bundle.stringAtoms, d ∈ tables_1) d hd)
  have hS0 : s.Since s.vm h0.size := (State.WarmedH.refl s).since _
  have hk0 : h0.size ≤ h0.size := Nat.le_refl _
  show GoW p e below s (Q2z Z p1 p2 p3 p4 p5 h0 n0) ({ frames := 0, cells := 2, slots := 4, locals := 0 } : Room).cells ({ frames := 0, cells := 2, slots := 4, locals := 0 } : Room).slots _
  refine GoW.via (S' := s₁.setTop (mkF m 0 #[.val (.int p1), .val (.int p2), .val (.int p3), .val (.int p4), .val (.int p5)] [])) (fun t k => castTop (ef_2z m p1 p2 p3 p4 p5) k) ?_
  refine GoW.via (S' := s₁.setTop (mkF m 1 #[.val (.int p1), .val (.int p2), .val (.int p3), .val (.int p4), .val (.int p5)] [(.int p1)])) (fun _ k => XS.iloadN X0.here hx rfl (hb hby d2_0) rfl k) ?_
  refine GoW.via (S' := s₁.setTop (mkF m 4 #[.val (.int p1), .val (.int p2), .val (.int p3), .val (.int p4), .val (.int p5)] [])) (fun _ k => XS.ifNo X0.here hx rfl (hb hby d2_1) rfl ((if0 _ _).trans (teq hz0).2) k) ?_
  have hIB : IB Z s.vm [] := ⟨#[], by rw [hI]; simp, fun q hq => by simp at hq⟩
  have hkp : ∀ (b : Addr) (cl : Cell), Z.heap[b]? = some cl → s.heap[b]? = some cl := fun b cl q => by rw [hh]; exact X00.2.2 b cl q
  obtain ⟨b1, T1, h1, k1, t1, kb1, X1, e1, E1, hS1, hk1, hZ, hown, Ea1, Fc1, Fv1, Va1, -, -, -, st1⟩ := ldcSV (s := s) (vm0 := s.vm) X0 hx hZ hown (hw _ (List.mem_of_getElem? (i := 120) rfl)) hwS e0 hS0 hk0 (Fr.nil _) hkp hIB (by simp) hch hcw (vs := []) (z := (0 : Int32)) (by constructor <;> simp <;> decide) (by decide) (by decide) (g := (mkF m 4 #[.val (.int p1), .val (.int p2), .val (.int p3), .val (.int p4), .val (.int p5)] [])) rfl (hb hby d2_4) (n := 0) (by decide) (by decide) (by decide) (by decide)
  have z2 := Nat.le_trans Z0 E1.1
  have K3 := (Keep.refl h0 []).ext E1
  refine GoW.via (S' := T1.setTop (mkF m 6 #[.val (.int p1), .val (.int p2), .val (.int p3), .val (.int p4), .val (.int p5)] [(.ref b1)])) (fun _ k => st1 _ k) ?_
  exact GoW.retA X1 hx (BodyLoose.notSynchronized Bd) hS1 (by rw [e1]; exact hk1) Bd.returns rfl rfl rfl (hb hby d2_6) (by rw [e1]; exact ⟨_, t1, rfl, N0, K3, own_mk (cs' := []) Ea1 Fv1 Fc1 Va1 (by simp) rfl (Nat.le_of_ble_eq_true rfl) (by simp [own_cs, hz0])⟩) (by decide) (by decide)
theorem d10_0 : decode jdk_43_method_3_code 0 = .ok (.iload_n 0, 1) := by decide +kernel
theorem d10_1 : decode jdk_43_method_3_code 1 = .ok (.sipush 255, 3) := by decide +kernel
theorem d10_4 : decode jdk_43_method_3_code 4 = .ok (.if_icmp .gt 7, 3) := by decide +kernel
theorem d10_7 : decode jdk_43_method_3_code 7 = .ok (.iconst 1, 1) := by decide +kernel
theorem d10_8 : decode jdk_43_method_3_code 8 = .ok (.goto 4, 3) := by decide +kernel
theorem d10_12 : decode jdk_43_method_3_code 12 = .ok (.ireturn, 1) := by decide +kernel
theorem pn_1 : plainName "java/lang/StringLatin1" = true := by first | (simp [plainName, overriddenIn]; done) | decide +kernel
theorem ef_10 (m : MethodId) (x0 : Int32) : entryFrame m #[(.int x0)] 1 = mkF m 0 #[.val (.int x0)] [] := by first | (simp [entryFrame, mkF, argsToLocals, Value.category]; done) | rfl
def Q10 (Z : State) (p1 : Int32) (h0 : Heap) (n0 : Nat) (v : Option Value) (h : Heap) (L : List Loc) : Prop := v = some (.int 1) ∧ Fr n0 L ∧ h = h0
set_option maxRecDepth 65536 in
set_option maxHeartbeats 40000000 in
theorem rm10 (l : Launch) (Z : State) (a0 : Array Value) (hw : ∀ d ∈ tables_1, d.before a0 Z = true) (ws : List Jvm.Cond) (p1 : Int32) (h0 : Heap) (n0 : Nat) (Z0 : n0 ≤ h0.size) (hc : own_ch p1) :
    MetFree l (⟨"java/lang/StringLatin1", "canEncode", "(C)Z"⟩ : MethodName) (head1 (Jvm.Cond.code (⟨"java/lang/StringLatin1", "canEncode", "(C)Z"⟩ : MethodName) jdk_43_method_3_code 1 (some .boolean) :: ws) ({ frames := 0, cells := 0, slots := 0, locals := 0 } : Room)) (fun a U => a = #[(.int p1)] ∧ Z.Warmed39 U.vm ∧ U.heap = h0) (fun _ _ _ _ _ => True) (fun _ U o U' => ∃ v L, o = .returned v ∧ Q10 Z p1 h0 n0 v U'.heap L ∧ FrameEnd U o U' L ({ frames := 0, cells := 0, slots := 0, locals := 0 } : Room).cells ({ frames := 0, cells := 0, slots := 0, locals := 0 } : Room).slots) := by
  refine MetFree.of_bodySF (plainFor_of_name pn_1) hisR ?_
  intro p e s m args below meth c s₁ Bd hml0 hP hK
  obtain ⟨rfl, hZ, hh⟩ := hP
  have hx := Bd.exec
  have hby := Bd.bytes
  have hml : c.maxLocals = 1 := hml0
  have hown : s.vm.findClass "java/lang/StringLatin1" = some m.cls := findClass_of_methodNamed Bd.named
  have hnm := (name_of_methodNamed Bd.named Bd.method).1
  have X0 : Stand p l e ({ frames := 0, cells := 0, slots := 0, locals := 0 } : Room) s m #[(.int p1)] below meth c s₁ [] 0 0 := Stand.of_body Bd
  have e0 : s₁.heap = h0 := by rw [← hh, Bd.state]; rfl
  have N0 := Fr.nil n0
  show Go p e below s (Q10 Z p1 h0 n0) ({ frames := 0, cells := 0, slots := 0, locals := 0 } : Room).cells ({ frames := 0, cells := 0, slots := 0, locals := 0 } : Room).slots _
  refine Go.via (S' := s₁.setTop (mkF m 0 #[.val (.int p1)] [])) (fun t k => castTop (ef_10 m p1) k) ?_
  refine Go.via (S' := s₁.setTop (mkF m 1 #[.val (.int p1)] [(.int p1)])) (fun _ k => XS.iloadN X0.here hx rfl (hb hby d10_0) rfl k) ?_
  refine Go.via (S' := s₁.setTop (mkF m 4 #[.val (.int p1)] [(.int (255 : Int32)), (.int p1)])) (fun _ k => XS.sipush X0.here hx rfl (hb hby d10_1) k) ?_
  refine Go.via (S' := s₁.setTop (mkF m 7 #[.val (.int p1)] [])) (fun _ k => XS.icmpNo X0.here hx rfl (hb hby d10_4) rfl (flt hc.2).2.2.1 k) ?_
  refine Go.via (S' := s₁.setTop (mkF m 8 #[.val (.int p1)] [(.int (1 : Int32))])) (fun _ k => XS.iconst X0.here hx rfl (hb hby d10_7) k) ?_
  refine Go.via (S' := s₁.setTop (mkF m 12 #[.val (.int p1)] [(.int (1 : Int32))])) (fun _ k => XS.goto X0.here hx rfl (pc0 := 8) (pc' := 12) rfl (hb hby d10_8) (by decide) (by decide) k) ?_
  exact Go.retB X0 hx (BodyLoose.notSynchronized Bd) Bd.returns (hb hby d10_12) rfl (by rw [e0]; exact ⟨rfl, N0, rfl⟩) (by decide) (by decide)
theorem d11_0 : decode jdk_43_method_46_code 0 = .ok (.iconst 1, 1) := by decide +kernel
theorem d11_1 : decode jdk_43_method_46_code 1 = .ok (.newarray .byte, 2) := by decide +kernel
theorem d11_3 : decode jdk_43_method_46_code 3 = .ok (.dup, 1) := by decide +kernel
theorem d11_4 : decode jdk_43_method_46_code 4 = .ok (.iconst 0, 1) := by decide +kernel
theorem d11_5 : decode jdk_43_method_46_code 5 = .ok (.iload_n 0, 1) := by decide +kernel
theorem d11_6 : decode jdk_43_method_46_code 6 = .ok (.i2b, 1) := by decide +kernel
theorem d11_7 : decode jdk_43_method_46_code 7 = .ok (.bastore, 1) := by decide +kernel
theorem d11_8 : decode jdk_43_method_46_code 8 = .ok (.areturn, 1) := by decide +kernel
theorem ef_11 (m : MethodId) (x0 : Int32) : entryFrame m #[(.int x0)] 1 = mkF m 0 #[.val (.int x0)] [] := by first | (simp [entryFrame, mkF, argsToLocals, Value.category]; done) | rfl
def Q11 (Z : State) (p1 : Int32) (h0 : Heap) (n0 : Nat) (v : Option Value) (h : Heap) (L : List Loc) : Prop := ∃ r : Addr, v = some (.ref r) ∧ Fr n0 L ∧ Keep h0 h []
set_option maxRecDepth 65536 in
set_option maxHeartbeats 40000000 in
theorem rm11 (l : Launch) (Z : State) (a0 : Array Value) (hw : ∀ d ∈ tables_1, d.before a0 Z = true) (ws : List Jvm.Cond) (p1 : Int32) (h0 : Heap) (n0 : Nat) (Z0 : n0 ≤ h0.size) :
    MetFree l (⟨"java/lang/StringLatin1", "toBytes", "(C)[B"⟩ : MethodName) (head1 (Jvm.Cond.code (⟨"java/lang/StringLatin1", "toBytes", "(C)[B"⟩ : MethodName) jdk_43_method_46_code 1 (some (.array .byte)) :: ws) ({ frames := 0, cells := 1, slots := 1, locals := 0 } : Room)) (fun a U => a = #[(.int p1)] ∧ Z.Warmed39 U.vm ∧ U.heap = h0) (fun _ _ _ _ _ => True) (fun _ U o U' => ∃ v L, o = .returned v ∧ Q11 Z p1 h0 n0 v U'.heap L ∧ FrameEnd U o U' L ({ frames := 0, cells := 1, slots := 1, locals := 0 } : Room).cells ({ frames := 0, cells := 1, slots := 1, locals := 0 } : Room).slots) := by
  refine MetFree.of_bodySF (plainFor_of_name pn_1) hisR ?_
  intro p e s m args below meth c s₁ Bd hml0 hP hK
  obtain ⟨rfl, hZ, hh⟩ := hP
  have hx := Bd.exec
  have hby := Bd.bytes
  have hml : c.maxLocals = 1 := hml0
  have hown : s.vm.findClass "java/lang/StringLatin1" = some m.cls := findClass_of_methodNamed Bd.named
  have hnm := (name_of_methodNamed Bd.named Bd.method).1
  have X0 : Stand p l e ({ frames := 0, cells := 1, slots := 1, locals := 0 } : Room) s m #[(.int p1)] below meth c s₁ [] 0 0 := Stand.of_body Bd
  have e0 : s₁.heap = h0 := by rw [← hh, Bd.state]; rfl
  have N0 := Fr.nil n0
  show Go p e below s (Q11 Z p1 h0 n0) ({ frames := 0, cells := 1, slots := 1, locals := 0 } : Room).cells ({ frames := 0, cells := 1, slots := 1, locals := 0 } : Room).slots _
  refine Go.via (S' := s₁.setTop (mkF m 0 #[.val (.int p1)] [])) (fun t k => castTop (ef_11 m p1) k) ?_
  refine Go.via (S' := s₁.setTop (mkF m 1 #[.val (.int p1)] [(.int (1 : Int32))])) (fun _ k => XS.iconst X0.here hx rfl (hb hby d11_0) k) ?_
  obtain ⟨T1, h1, k1, X1, e1, E1, A1, st1⟩ := newP X0 hx hZ (hw _ (List.mem_of_getElem? (i := 27) rfl)) e0 (g := (mkF m 1 #[.val (.int p1)] [(.int (1 : Int32))])) rfl (hb hby d11_1) rfl (by decide) (cap := 1) (by decide) (by decide) (by decide) (by decide)
  obtain ⟨b1, g1⟩ : ∃ z, z = h0.size := ⟨_, rfl⟩
  rw [← g1] at A1 st1
  have g2 : n0 ≤ b1 := Nat.le_trans Z0 (Nat.le_of_eq g1.symm)
  have g3 : h0.size ≤ b1 := Nat.le_trans (Keep.refl h0 []).1 (Nat.le_of_eq g1.symm)
  have z4 := Nat.le_trans Z0 E1.1
  have K5 := (Keep.refl h0 []).ext E1
  have V6 : Arv Z h1 b1 k1 .byte (1 : Int32) [(.int (0 : Int32))] (.int (0 : Int32)) := (Arv.new A1 (by decide)).pad (pad_rep [] (.int (0 : Int32)) 1)
  refine Go.via (S' := T1.setTop (mkF m 3 #[.val (.int p1)] [(.ref b1)])) (fun _ k => st1 _ k) ?_
  refine Go.via (S' := T1.setTop (mkF m 4 #[.val (.int p1)] [(.ref b1), (.ref b1)])) (fun _ k => XS.dup X1.here hx rfl (hb hby d11_3) rfl rfl k) ?_
  refine Go.via (S' := T1.setTop (mkF m 5 #[.val (.int p1)] [(.int (0 : Int32)), (.ref b1), (.ref b1)])) (fun _ k => XS.iconst X1.here hx rfl (hb hby d11_4) k) ?_
  refine Go.via (S' := T1.setTop (mkF m 6 #[.val (.int p1)] [(.int p1), (.int (0 : Int32)), (.ref b1), (.ref b1)])) (fun _ k => XS.iloadN X1.here hx rfl (hb hby d11_5) rfl k) ?_
  refine Go.via (S' := T1.setTop (mkF m 7 #[.val (.int p1)] [(.int (p1.toInt8.toInt32)), (.int (0 : Int32)), (.ref b1), (.ref b1)])) (fun _ k => XS.i2b X1.here hx rfl (hb hby d11_6) rfl k) ?_
  obtain ⟨c7, Ar7, q7, S7, M7, H7, G7⟩ := id V6
  obtain ⟨T7, h7, X7, e7, W7, st7⟩ := stB X1 hx hZ e1 Ar7 (j := (0 : Int32)) (inb_of S7 ⟨by decide, by decide⟩) (g := (mkF m 7 #[.val (.int p1)] [(.int (p1.toInt8.toInt32)), (.int (0 : Int32)), (.ref b1), (.ref b1)])) rfl rfl (hb hby d11_7)
  have V8 : Arv Z h7 b1 k1 .byte (1 : Int32) [(.int (nar .byte (p1.toInt8.toInt32)))] (.int (0 : Int32)) := Arv.set Ar7 q7 S7 M7 H7 G7 (fits_nar_byte _) W7 0 rfl (Nat.le_of_ble_eq_true rfl)
  have N9 := Fr.snoc X7 N0 g2
  have z10 := Nat.le_trans z4 (Keep.of_wr W7).1
  have K11 := K5.wr W7 (Or.inr g3)
  refine Go.via (S' := T7.setTop (mkF m 8 #[.val (.int p1)] [(.ref b1)])) (fun _ k => st7 _ k) ?_
  exact Go.retA X7 hx (BodyLoose.notSynchronized Bd) Bd.returns rfl rfl rfl (hb hby d11_8) (by rw [e7]; exact ⟨_, rfl, N9, K11⟩) (by decide) (by decide)
theorem d12_0 : decode jdk_42_method_151_code 0 = .ok (.aload_n 0, 1) := by decide +kernel
theorem d12_1 : decode jdk_42_method_151_code 1 = .ok (.invokespecial 1, 3) := by decide +kernel
theorem d12_4 : decode jdk_42_method_151_code 4 = .ok (.aload_n 0, 1) := by decide +kernel
theorem d12_5 : decode jdk_42_method_151_code 5 = .ok (.aload_n 1, 1) := by decide +kernel
theorem d12_6 : decode jdk_42_method_151_code 6 = .ok (.putfield 9, 3) := by decide +kernel
theorem d12_9 : decode jdk_42_method_151_code 9 = .ok (.aload_n 0, 1) := by decide +kernel
theorem d12_10 : decode jdk_42_method_151_code 10 = .ok (.iload_n 2, 1) := by decide +kernel
theorem d12_11 : decode jdk_42_method_151_code 11 = .ok (.putfield 15, 3) := by decide +kernel
theorem d12_14 : decode jdk_42_method_151_code 14 = .ok (.return_, 1) := by decide +kernel
theorem pn_2 : plainName "java/lang/String" = true := by first | (simp [plainName, overriddenIn]; done) | decide +kernel
theorem ef_12 (m : MethodId) (x0 : Addr) (x1 : Addr) (x2 : Int32) : entryFrame m #[(.ref x0), (.ref x1), (.int x2)] 3 = mkF m 0 #[.val (.ref x0), .val (.ref x1), .val (.int x2)] [] := by first | (simp [entryFrame, mkF, argsToLocals, Value.category]; done) | rfl
def Q12 (Z : State) (a1 : Addr) (a2 : Addr) (p3 : Int32) (h0 : Heap) (n0 : Nat) (v : Option Value) (h : Heap) (L : List Loc) : Prop := v = none ∧ Fr n0 L ∧ Keep h0 h [a1]
set_option maxRecDepth 65536 in
set_option maxHeartbeats 40000000 in
theorem rm12 (l : Launch) (Z : State) (a0 : Array Value) (hw : ∀ d ∈ tables_1, d.before a0 Z = true) (ws : List Jvm.Cond) (a1 : Addr) (a2 : Addr) (p3 : Int32) (h0 : Heap) (n0 : Nat) (Z0 : n0 ≤ h0.size) (E1 : Exa Z h0 a1 "java/lang/String") (F1 : Fld Z h0 a1 "java/lang/String" "value" "[B" .null) (F2 : Fld Z h0 a1 "java/lang/String" "coder" "B" (.int (0 : Int32))) (g1 : n0 ≤ a1) :
    MetFree l (⟨"java/lang/String", "<init>", "([BB)V"⟩ : MethodName) (head1 (Jvm.Cond.code (⟨"java/lang/String", "<init>", "([BB)V"⟩ : MethodName) jdk_42_method_151_code 3 none :: ws) ({ frames := 1, cells := 0, slots := 0, locals := 12 } : Room)) (fun a U => a = #[(.ref a1), (.ref a2), (.int p3)] ∧ Z.Warmed39 U.vm ∧ U.heap = h0) (fun _ _ _ _ _ => True) (fun _ U o U' => ∃ v L, o = .returned v ∧ Q12 Z a1 a2 p3 h0 n0 v U'.heap L ∧ FrameEnd U o U' L ({ frames := 1, cells := 0, slots := 0, locals := 12 } : Room).cells ({ frames := 1, cells := 0, slots := 0, locals := 12 } : Room).slots) := by
  refine MetFree.of_bodySF (plainFor_of_name pn_2) hisR ?_
  intro p e s m args below meth c s₁ Bd hml0 hP hK
  obtain ⟨rfl, hZ, hh⟩ := hP
  have hx := Bd.exec
  have hby := Bd.bytes
  have hml : c.maxLocals = 3 := hml0
  have hown : s.vm.findClass "java/lang/String" = some m.cls := findClass_of_methodNamed Bd.named
  have hnm := (name_of_methodNamed Bd.named Bd.method).1
  have X0 : Stand p l e ({ frames := 1, cells := 0, slots := 0, locals := 12 } : Room) s m #[(.ref a1), (.ref a2), (.int p3)] below meth c s₁ [] 0 0 := Stand.of_body Bd
  have e0 : s₁.heap = h0 := by rw [← hh, Bd.state]; rfl
  have N0 := Fr.nil n0
  show Go p e below s (Q12 Z a1 a2 p3 h0 n0) ({ frames := 1, cells := 0, slots := 0, locals := 12 } : Room).cells ({ frames := 1, cells := 0, slots := 0, locals := 12 } : Room).slots _
  refine Go.via (S' := s₁.setTop (mkF m 0 #[.val (.ref a1), .val (.ref a2), .val (.int p3)] [])) (fun t k => castTop (ef_12 m a1 a2 p3) k) ?_
  refine Go.via (S' := s₁.setTop (mkF m 1 #[.val (.ref a1), .val (.ref a2), .val (.int p3)] [(.ref a1)])) (fun _ k => XS.aloadN X0.here hx rfl (hb hby d12_0) rfl rfl k) ?_
  obtain ⟨T1, X1, e1, st1⟩ := initO X0 hx hZ hown (hw _ (List.mem_of_getElem? (i := 19) rfl)) (hw _ (List.mem_of_getElem? (i := 20) rfl)) (hw _ (List.mem_of_getElem? (i := 21) rfl)) e0 (g := (mkF m 1 #[.val (.ref a1), .val (.ref a2), .val (.int p3)] [(.ref a1)])) rfl (by rw [hml]; rfl) rfl (hb hby d12_1) (by decide) (W := 0) (by show 2 * 0 + _ ≤ _; exact Nat.le_of_eq rfl) (by decide)
  refine Go.via (S' := T1.setTop (mkF m 4 #[.val (.ref a1), .val (.ref a2), .val (.int p3)] [])) (fun _ k => st1 _ k) ?_
  refine Go.via (S' := T1.setTop (mkF m 5 #[.val (.ref a1), .val (.ref a2), .val (.int p3)] [(.ref a1)])) (fun _ k => XS.aloadN X1.here hx rfl (hb hby d12_4) rfl rfl k) ?_
  refine Go.via (S' := T1.setTop (mkF m 6 #[.val (.ref a1), .val (.ref a2), .val (.int p3)] [(.ref a2), (.ref a1)])) (fun _ k => XS.aloadN X1.here hx rfl (hb hby d12_5) rfl rfl k) ?_
  obtain ⟨T2, h2, X2, e2, W2, st2⟩ := putF X1 hx hZ hown (host := "") (Or.inl (hw _ (List.mem_of_getElem? (i := 36) rfl))) Via.refl e1 F1 E1 (Or.inr ⟨(hw _ (List.mem_of_getElem? (i := 37) rfl)), rfl, hnm⟩) (hw _ (List.mem_of_getElem? (i := 9) rfl)) (ty := (.array .byte)) (by decide) rfl rfl (g := (mkF m 6 #[.val (.ref a1), .val (.ref a2), .val (.int p3)] [(.ref a2), (.ref a1)])) rfl rfl (hb hby d12_6)
  have N3 := Fr.snoc X2 N0 g1
  have f4 := E1.wr W2
  have f5 := F1.same W2
  have f6 := F2.other W2 (Or.inr (slot_ne (Or.inr (hw _ (List.mem_of_getElem? (i := 35) rfl))) (Or.inr (hw _ (List.mem_of_getElem? (i := 37) rfl))) (by decide) (t := .byte) (t' := (.array .byte)) (by decide) (by decide)))
  have z7 := Nat.le_trans Z0 (Keep.of_wr W2).1
  have K8 := (Keep.refl h0 [a1]).wr W2 (Or.inl (List.mem_of_getElem? (i := 0) rfl))
  refine Go.via (S' := T2.setTop (mkF m 9 #[.val (.ref a1), .val (.ref a2), .val (.int p3)] [])) (fun _ k => st2 _ k) ?_
  refine Go.via (S' := T2.setTop (mkF m 10 #[.val (.ref a1), .val (.ref a2), .val (.int p3)] [(.ref a1)])) (fun _ k => XS.aloadN X2.here hx rfl (hb hby d12_9) rfl rfl k) ?_
  refine Go.via (S' := T2.setTop (mkF m 11 #[.val (.ref a1), .val (.ref a2), .val (.int p3)] [(.int p3), (.ref a1)])) (fun _ k => XS.iloadN X2.here hx rfl (hb hby d12_10) rfl k) ?_
  obtain ⟨T9, h9, X9, e9, W9, st9⟩ := putFN X2 hx hZ hown (hw _ (List.mem_of_getElem? (i := 34) rfl)) Via.refl e2 f6 f4 (Or.inr ⟨(hw _ (List.mem_of_getElem? (i := 35) rfl)), rfl, hnm⟩) (hw _ (List.mem_of_getElem? (i := 9) rfl)) (ty := .byte) (v' := .int (nar .byte p3)) (by decide) rfl (fits_nar_byte _) (g := (mkF m 11 #[.val (.ref a1), .val (.ref a2), .val (.int p3)] [(.int p3), (.ref a1)])) rfl rfl (hb hby d12_11)
  have N10 := Fr.snoc X9 N3 g1
  have f11 := f4.wr W9
  have f12 := f5.other W9 (Or.inr (slot_ne (Or.inr (hw _ (List.mem_of_getElem? (i := 37) rfl))) (Or.inr (hw _ (List.mem_of_getElem? (i := 35) rfl))) (by decide) (t := (.array .byte)) (t' := .byte) (by decide) (by decide)))
  have f13 := f6.same W9
  have z14 := Nat.le_trans z7 (Keep.of_wr W9).1
  have K15 := K8.wr W9 (Or.inl (List.mem_of_getElem? (i := 0) rfl))
  refine Go.via (S' := T9.setTop (mkF m 14 #[.val (.ref a1), .val (.ref a2), .val (.int p3)] [])) (fun _ k => st9 _ k) ?_
  exact Go.retV X9 hx (BodyLoose.notSynchronized Bd) Bd.returns (hb hby d12_14) (by rw [e9]; exact ⟨rfl, N10, K15⟩) (by decide) (by decide)
theorem d9_0 : decode jdk_42_method_139_code 0 = .ok (.getstatic 38, 3) := by decide +kernel
theorem d9_3 : decode jdk_42_method_139_code 3 = .ok (.ifCond .eq 23, 3) := by decide +kernel
theorem d9_6 : decode jdk_42_method_139_code 6 = .ok (.iload_n 0, 1) := by decide +kernel
theorem d9_7 : decode jdk_42_method_139_code 7 = .ok (.invokestatic 1015, 3) := by decide +kernel
theorem pd_1 : parseMethodDescriptor "(C)Z" = some ⟨[.char], some .boolean⟩ := by decide +kernel
theorem d9_10 : decode jdk_42_method_139_code 10 = .ok (.ifCond .eq 16, 3) := by decide +kernel
theorem d9_13 : decode jdk_42_method_139_code 13 = .ok (.new 10, 3) := by decide +kernel
theorem d9_16 : decode jdk_42_method_139_code 16 = .ok (.dup, 1) := by decide +kernel
theorem d9_17 : decode jdk_42_method_139_code 17 = .ok (.iload_n 0, 1) := by decide +kernel
theorem d9_18 : decode jdk_42_method_139_code 18 = .ok (.invokestatic 1018, 3) := by decide +kernel
theorem pd_2 : parseMethodDescriptor "(C)[B" = some ⟨[.char], some (.array .byte)⟩ := by decide +kernel
theorem d9_21 : decode jdk_42_method_139_code 21 = .ok (.iconst 0, 1) := by decide +kernel
theorem d9_22 : decode jdk_42_method_139_code 22 = .ok (.invokespecial 209, 3) := by decide +kernel
theorem pd_3 : parseMethodDescriptor "([BB)V" = some ⟨[(.array .byte), .byte], none⟩ := by decide +kernel
theorem d9_25 : decode jdk_42_method_139_code 25 = .ok (.areturn, 1) := by decide +kernel
theorem ef_9 (m : MethodId) (x0 : Int32) : entryFrame m #[(.int x0)] 1 = mkF m 0 #[.val (.int x0)] [] := by first | (simp [entryFrame, mkF, argsToLocals, Value.category]; done) | rfl
def Q9 (Z : State) (p1 : Int32) (G1 : Int32) (h0 : Heap) (n0 : Nat) (v : Option Value) (h : Heap) (L : List Loc) : Prop := ∃ r : Addr, v = some (.ref r) ∧ Fr n0 L ∧ Keep h0 h []
set_option maxRecDepth 65536 in
set_option maxHeartbeats 40000000 in
theorem rm9 (l : Launch) (Z : State) (a0 : Array Value) (hw : ∀ d ∈ tables_1, d.before a0 Z = true) (ws : List Jvm.Cond) (p1 : Int32) (G1 : Int32) (h0 : Heap) (n0 : Nat) (Z0 : n0 ≤ h0.size) (X00 : Old Z n0 h0) (O2 : Sta Z Z.heap "java/lang/String" "COMPACT_STRINGS" "Z" (.int G1)) (P5 : ¬ G1 = (0 : Int32)) (hc : own_ch p1) :
    MetFree l (⟨"java/lang/String", "valueOf", "(C)Ljava/lang/String;"⟩ : MethodName) (head1 (Jvm.Cond.code (⟨"java/lang/String", "valueOf", "(C)Ljava/lang/String;"⟩ : MethodName) jdk_42_method_139_code 1 (some (.object "java/lang/String")) :: ws) ({ frames := 2, cells := 2, slots := 5, locals := 27 } : Room)) (fun a U => a = #[(.int p1)] ∧ Z.Warmed39 U.vm ∧ U.heap = h0) (fun _ _ _ _ _ => True) (fun _ U o U' => ∃ v L, o = .returned v ∧ Q9 Z p1 G1 h0 n0 v U'.heap L ∧ FrameEnd U o U' L ({ frames := 2, cells := 2, slots := 5, locals := 27 } : Room).cells ({ frames := 2, cells := 2, slots := 5, locals := 27 } : Room).slots) := by
  refine MetFree.of_bodySF (plainFor_of_name pn_2) hisR ?_
  intro p e s m args below meth c s₁ Bd hml0 hP hK
  obtain ⟨rfl, hZ, hh⟩ := hP
  have hx := Bd.exec
  have hby := Bd.bytes
  have hml : c.maxLocals = 1 := hml0
  have hown : s.vm.findClass "java/lang/String" = some m.cls := findClass_of_methodNamed Bd.named
  have hnm := (name_of_methodNamed Bd.named Bd.method).1
  have X0 : Stand p l e ({ frames := 2, cells := 2, slots := 5, locals := 27 } : Room) s m #[(.int p1)] below meth c s₁ [] 0 0 := Stand.of_body Bd
  have e0 : s₁.heap = h0 := by rw [← hh, Bd.state]; rfl
  have N0 := Fr.nil n0
  show Go p e below s (Q9 Z p1 G1 h0 n0) ({ frames := 2, cells := 2, slots := 5, locals := 27 } : Room).cells ({ frames := 2, cells := 2, slots := 5, locals := 27 } : Room).slots _
  refine Go.via (S' := s₁.setTop (mkF m 0 #[.val (.int p1)] [])) (fun t k => castTop (ef_9 m p1) k) ?_
  have Sg := O2.ext X00.2
  obtain ⟨T1, X1, e1, st1⟩ := getS2 X0 hx hZ hown (host := "") (Or.inl (hw _ (List.mem_of_getElem? (i := 22) rfl))) Via.refl e0 Sg (g := (mkF m 0 #[.val (.int p1)] [])) rfl (hb hby d9_0)
  refine Go.via (S' := T1.setTop (mkF m 3 #[.val (.int p1)] [(.int G1)])) (fun _ k => st1 _ k) ?_
  refine Go.via (S' := T1.setTop (mkF m 6 #[.val (.int p1)] [])) (fun _ k => XS.ifNo X1.here hx rfl (hb hby d9_3) rfl ((if0 _ _).trans (feq P5).1) k) ?_
  refine Go.via (S' := T1.setTop (mkF m 7 #[.val (.int p1)] [(.int p1)])) (fun _ k => XS.iloadN X1.here hx rfl (hb hby d9_6) rfl k) ?_
  obtain ⟨_, _, ⟨T2, L2, k2, n2⟩, -, X2, ⟨Lc2, hQ2, l2, y2, z2⟩, st2⟩ := Jvm.LawKit.callS X1 hx (y := (⟨"java/lang/StringLatin1", "canEncode", "(C)Z"⟩ : MethodName)) hown (mvT hZ (hw _ (List.mem_of_getElem? (i := 41) rfl))) (mvT hZ (hw _ (List.mem_of_getElem? (i := 42) rfl))) (mvT hZ (hw _ (List.mem_of_getElem? (i := 43) rfl))) (mvT hZ (hw _ (List.mem_of_getElem? (i := 44) rfl))) (by decide) (backOf (W := 0) (rm10 l Z a0 hw [] p1 h0 n0 Z0 hc) hZ (hw _ (List.mem_of_getElem? (i := 44) rfl)) (hw _ (List.mem_of_getElem? (i := 43) rfl)) (by decide) (by decide)) (g := (mkF m 7 #[.val (.int p1)] [(.int p1)])) rfl (by rw [hml]; rfl) (argsL := [(.int p1)]) (rest := []) (lenOf pd_1 rfl) rfl (by show 2 * 0 + _ ≤ _; exact Nat.le_of_eq rfl) (hb hby d9_7) (fun _ _ => ⟨rfl, e1, (by decide : 0 + 0 ≤ _), (by decide : 0 + 0 ≤ _)⟩)
  dsimp only [Pt.U, Pt.locs, Pt.cells, Pt.slots] at X2 l2 y2 z2 st2 hQ2
  subst l2 y2 z2
  obtain ⟨rfl, N2q, e2⟩ := hQ2
  have N3 := Fr.app N0 N2q
  refine Go.via (S' := T2.setTop (mkF m 10 #[.val (.int p1)] [(.int (1 : Int32))])) (fun _ k => st2 _ k) ?_
  refine Go.via (S' := T2.setTop (mkF m 13 #[.val (.int p1)] [])) (fun _ k => XS.ifNo X2.here hx rfl (hb hby d9_10) rfl ((if0 _ _).trans (feq (by decide)).1) k) ?_
  obtain ⟨T4, h4, X4, e4, E4, A4, D4, -, st4⟩ := newO X2 hx hZ hown (hw _ (List.mem_of_getElem? (i := 45) rfl)) (hw _ (List.mem_of_getElem? (i := 9) rfl)) (hw _ (List.mem_of_getElem? (i := 10) rfl)) e2 (g := (mkF m 13 #[.val (.int p1)] [])) rfl (hb hby d9_13) (by decide) (by decide)
  obtain ⟨b4, g4⟩ : ∃ z, z = h0.size := ⟨_, rfl⟩
  rw [← g4] at A4 D4 st4
  have g5 : n0 ≤ b4 := Nat.le_trans Z0 (Nat.le_of_eq g4.symm)
  have g6 : h0.size ≤ b4 := Nat.le_trans (Keep.refl h0 []).1 (Nat.le_of_eq g4.symm)
  have f7 := X00.ext E4
  have f8 := Sg.ext E4
  have z9 := Nat.le_trans Z0 E4.1
  have K10 := (Keep.refl h0 []).ext E4
  have F11 : Fld Z h4 b4 "java/lang/String" "coder" "B" (.int (0 : Int32)) := D4 (Or.inr (hw _ (List.mem_of_getElem? (i := 35) rfl))) (ty := .byte) (by decide)
  have F12 : Fld Z h4 b4 "java/lang/String" "value" "[B" .null := D4 (Or.inr (hw _ (List.mem_of_getElem? (i := 37) rfl))) (ty := (.array .byte)) (by decide)
  refine Go.via (S' := T4.setTop (mkF m 16 #[.val (.int p1)] [(.ref b4)])) (fun _ k => st4 _ k) ?_
  refine Go.via (S' := T4.setTop (mkF m 17 #[.val (.int p1)] [(.ref b4), (.ref b4)])) (fun _ k => XS.dup X4.here hx rfl (hb hby d9_16) rfl rfl k) ?_
  refine Go.via (S' := T4.setTop (mkF m 18 #[.val (.int p1)] [(.int p1), (.ref b4), (.ref b4)])) (fun _ k => XS.iloadN X4.here hx rfl (hb hby d9_17) rfl k) ?_
  obtain ⟨_, _, ⟨T13, L13, k13, n13⟩, -, X13, ⟨Lc13, hQ13, l13, y13, z13⟩, st13⟩ := Jvm.LawKit.callS X4 hx (y := (⟨"java/lang/StringLatin1", "toBytes", "(C)[B"⟩ : MethodName)) hown (mvT hZ (hw _ (List.mem_of_getElem? (i := 46) rfl))) (mvT hZ (hw _ (List.mem_of_getElem? (i := 47) rfl))) (mvT hZ (hw _ (List.mem_of_getElem? (i := 43) rfl))) (mvT hZ (hw _ (List.mem_of_getElem? (i := 48) rfl))) (by decide) (backOf (W := 2) (rm11 l Z a0 hw [] p1 h4 n0 z9) hZ (hw _ (List.mem_of_getElem? (i := 48) rfl)) (hw _ (List.mem_of_getElem? (i := 43) rfl)) (by decide) (by decide)) (g := (mkF m 18 #[.val (.int p1)] [(.int p1), (.ref b4), (.ref b4)])) rfl (by rw [hml]; rfl) (argsL := [(.int p1)]) (rest := [(.ref b4), (.ref b4)]) (lenOf pd_2 rfl) rfl (by show 2 * 0 + _ ≤ _; exact Nat.le_of_eq rfl) (hb hby d9_18) (fun _ _ => ⟨rfl, e4, (by decide : 1 + 1 ≤ _), (by decide : 4 + 1 ≤ _)⟩)
  dsimp only [Pt.U, Pt.locs, Pt.cells, Pt.slots] at X13 l13 y13 z13 st13 hQ13
  subst l13 y13 z13
  obtain ⟨r13, rfl, N13q, K13⟩ := hQ13
  have N14 := Fr.app N3 N13q
  have f15 := f7.keep K13 all0
  have f16 := A4.keep K13
  have f17 := F11.keep K13 nin0
  have f18 := F12.keep K13 nin0
  have z19 := Nat.le_trans z9 K13.1
  have K20 := K10.trans K13 all0
  refine Go.via (S' := T13.setTop (mkF m 21 #[.val (.int p1)] [(.ref r13), (.ref b4), (.ref b4)])) (fun _ k => st13 _ k) ?_
  refine Go.via (S' := T13.setTop (mkF m 22 #[.val (.int p1)] [(.int (0 : Int32)), (.ref r13), (.ref b4), (.ref b4)])) (fun _ k => XS.iconst X13.here hx rfl (hb hby d9_21) k) ?_
  obtain ⟨_, _, ⟨T21, L21, k21, n21⟩, -, X21, ⟨Lc21, hQ21, l21, y21, z21⟩, st21⟩ := X13.specialBack hx (y := (⟨"java/lang/String", "<init>", "([BB)V"⟩ : MethodName)) rfl hown (mvT hZ (hw _ (List.mem_of_getElem? (i := 49) rfl))) (mvT hZ (hw _ (List.mem_of_getElem? (i := 50) rfl))) (mvT hZ (hw _ (List.mem_of_getElem? (i := 51) rfl))) (by decide) (backOf (W := 1) (rm12 l Z a0 hw [] b4 r13 (0 : Int32) T13.heap n0 z19 f16 f18 f17 g5) hZ (hw _ (List.mem_of_getElem? (i := 51) rfl)) (hw _ (List.mem_of_getElem? (i := 10) rfl)) (by decide) (by decide)) (g := (mkF m 22 #[.val (.int p1)] [(.int (0 : Int32)), (.ref r13), (.ref b4), (.ref b4)])) rfl (by rw [hml]; rfl) (Steps.refl _) (a := b4) (argsL := [(.ref r13), (.int (0 : Int32))]) (rest := [(.ref b4)]) (lenOf pd_3 rfl) rfl (by show 2 * 0 + _ ≤ _; exact Nat.le_of_eq rfl) (hb hby d9_22) (fun _ _ => ⟨rfl, rfl, (by decide : 2 + 0 ≤ _), (by decide : 5 + 0 ≤ _)⟩)
  dsimp only [Pt.U, Pt.locs, Pt.cells, Pt.slots] at X21 l21 y21 z21 st21 hQ21
  subst l21 y21 z21
  obtain ⟨rfl, N21q, K21⟩ := hQ21
  have N22 := Fr.app N14 N21q
  have f23 := f15.keep K21 (allS g5 all0)
  have f24 := f16.keep K21
  have z25 := Nat.le_trans z19 K21.1
  have K26 := K20.trans K21 (allS (Or.inr g6) all0)
  refine Go.via (S' := T21.setTop (mkF m 25 #[.val (.int p1)] [(.ref b4)])) (fun _ k => st21.trans k) ?_
  exact Go.retA X21 hx (BodyLoose.notSynchronized Bd) Bd.returns rfl rfl rfl (hb hby d9_25) ⟨_, rfl, N22, K26⟩ (by decide) (by decide)
theorem d14_0 : decode prog_70_method_2_code 0 = .ok (.aload_n 0, 1) := by decide +kernel
theorem d14_1 : decode prog_70_method_2_code 1 = .ok (.invokespecial 7, 3) := by decide +kernel
theorem d14_4 : decode prog_70_method_2_code 4 = .ok (.aload_n 0, 1) := by decide +kernel
theorem d14_5 : decode prog_70_method_2_code 5 = .ok (.aload_n 1, 1) := by decide +kernel
theorem d14_6 : decode prog_70_method_2_code 6 = .ok (.putfield 12, 3) := by decide +kernel
theorem d14_9 : decode prog_70_method_2_code 9 = .ok (.aload_n 0, 1) := by decide +kernel
theorem d14_10 : decode prog_70_method_2_code 10 = .ok (.aload_n 2, 1) := by decide +kernel
theorem d14_11 : decode prog_70_method_2_code 11 = .ok (.putfield 16, 3) := by decide +kernel
theorem d14_14 : decode prog_70_method_2_code 14 = .ok (.aload_n 0, 1) := by decide +kernel
theorem d14_15 : decode prog_70_method_2_code 15 = .ok (.aload_n 3, 1) := by decide +kernel
theorem d14_16 : decode prog_70_method_2_code 16 = .ok (.putfield 19, 3) := by decide +kernel
theorem d14_19 : decode prog_70_method_2_code 19 = .ok (.return_, 1) := by decide +kernel
theorem pn_3 : plainName "com/example/amendatory/amendatory/ProvisionName" = true := by first | (simp [plainName, overriddenIn]; done) | decide +kernel
theorem ef_14 (m : MethodId) (x0 : Addr) (x1 : Addr) (x2 : Addr) (x3 : Addr) : entryFrame m #[(.ref x0), (.ref x1), (.ref x2), (.ref x3)] 4 = mkF m 0 #[.val (.ref x0), .val (.ref x1), .val (.ref x2), .val (.ref x3)] [] := by first | (simp [entryFrame, mkF, argsToLocals, Value.category]; done) | rfl
def Q14 (Z : State) (a1 : Addr) (a2 : Addr) (a3 : Addr) (a4 : Addr) (h0 : Heap) (n0 : Nat) (v : Option Value) (h : Heap) (L : List Loc) : Prop := v = none ∧ Fr n0 L ∧ Keep h0 h [a1] ∧ Fld Z h a1 "com/example/amendatory/amendatory/ProvisionName" "word" "Ljava/lang/String;" (.ref a2) ∧ Fld Z h a1 "com/example/amendatory/amendatory/ProvisionName" "number" "Ljava/lang/String;" (.ref a3)
set_option maxRecDepth 65536 in
set_option maxHeartbeats 40000000 in
theorem rm14 (l : Launch) (Z : State) (a0 : Array Value) (hw : ∀ d ∈ tables_1, d.before a0 Z = true) (ws : List Jvm.Cond) (a1 : Addr) (a2 : Addr) (a3 : Addr) (a4 : Addr) (h0 : Heap) (n0 : Nat) (Z0 : n0 ≤ h0.size) (E1 : Exa Z h0 a1 "com/example/amendatory/amendatory/ProvisionName") (F_word : Fld Z h0 a1 "com/example/amendatory/amendatory/ProvisionName" "word" "Ljava/lang/String;" .null) (F_number : Fld Z h0 a1 "com/example/amendatory/amendatory/ProvisionName" "number" "Ljava/lang/String;" .null) (F_paragraph : Fld Z h0 a1 "com/example/amendatory/amendatory/ProvisionName" "paragraph" "Ljava/lang/String;" .null) (g1 : n0 ≤ a1) :
    MetFree l (⟨"com/example/amendatory/amendatory/ProvisionName", "<init>", "(Ljava/lang/String;Ljava/lang/String;Ljava/lang/String;)V"⟩ : MethodName) (head1 (Jvm.Cond.code (⟨"com/example/amendatory/amendatory/ProvisionName", "<init>", "(Ljava/lang/String;Ljava/lang/String;Ljava/lang/String;)V"⟩ : MethodName) prog_70_method_2_code 4 none :: ws) ({ frames := 1, cells := 0, slots := 0, locals := 12 } : Room)) (fun a U => a = #[(.ref a1), (.ref a2), (.ref a3), (.ref a4)] ∧ Z.Warmed39 U.vm ∧ U.heap = h0) (fun _ _ _ _ _ => True) (fun _ U o U' => ∃ v L, o = .returned v ∧ Q14 Z a1 a2 a3 a4 h0 n0 v U'.heap L ∧ FrameEnd U o U' L ({ frames := 1, cells := 0, slots := 0, locals := 12 } : Room).cells ({ frames := 1, cells := 0, slots := 0, locals := 12 } : Room).slots) := by
  refine MetFree.of_bodySF (plainFor_of_name pn_3) hisR ?_
  intro p e s m args below meth c s₁ Bd hml0 hP hK
  obtain ⟨rfl, hZ, hh⟩ := hP
  have hx := Bd.exec
  have hby := Bd.bytes
  have hml : c.maxLocals = 4 := hml0
  have hown : s.vm.findClass "com/example/amendatory/amendatory/ProvisionName" = some m.cls := findClass_of_methodNamed Bd.named
  have hnm := (name_of_methodNamed Bd.named Bd.method).1
  have X0 : Stand p l e ({ frames := 1, cells := 0, slots := 0, locals := 12 } : Room) s m #[(.ref a1), (.ref a2), (.ref a3), (.ref a4)] below meth c s₁ [] 0 0 := Stand.of_body Bd
  have e0 : s₁.heap = h0 := by rw [← hh, Bd.state]; rfl
  have N0 := Fr.nil n0
  show Go p e below s (Q14 Z a1 a2 a3 a4 h0 n0) ({ frames := 1, cells := 0, slots := 0, locals := 12 } : Room).cells ({ frames := 1, cells := 0, slots := 0, locals := 12 } : Room).slots _
  refine Go.via (S' := s₁.setTop (mkF m 0 #[.val (.ref a1), .val (.ref a2), .val (.ref a3), .val (.ref a4)] [])) (fun t k => castTop (ef_14 m a1 a2 a3 a4) k) ?_
  refine Go.via (S' := s₁.setTop (mkF m 1 #[.val (.ref a1), .val (.ref a2), .val (.ref a3), .val (.ref a4)] [(.ref a1)])) (fun _ k => XS.aloadN X0.here hx rfl (hb hby d14_0) rfl rfl k) ?_
  obtain ⟨T1, X1, e1, st1⟩ := initO X0 hx hZ hown (hw _ (List.mem_of_getElem? (i := 61) rfl)) (hw _ (List.mem_of_getElem? (i := 20) rfl)) (hw _ (List.mem_of_getElem? (i := 21) rfl)) e0 (g := (mkF m 1 #[.val (.ref a1), .val (.ref a2), .val (.ref a3), .val (.ref a4)] [(.ref a1)])) rfl (by rw [hml]; rfl) rfl (hb hby d14_1) (by decide) (W := 0) (by show 2 * 0 + _ ≤ _; exact Nat.le_of_eq rfl) (by decide)
  refine Go.via (S' := T1.setTop (mkF m 4 #[.val (.ref a1), .val (.ref a2), .val (.ref a3), .val (.ref a4)] [])) (fun _ k => st1 _ k) ?_
  refine Go.via (S' := T1.setTop (mkF m 5 #[.val (.ref a1), .val (.ref a2), .val (.ref a3), .val (.ref a4)] [(.ref a1)])) (fun _ k => XS.aloadN X1.here hx rfl (hb hby d14_4) rfl rfl k) ?_
  refine Go.via (S' := T1.setTop (mkF m 6 #[.val (.ref a1), .val (.ref a2), .val (.ref a3), .val (.ref a4)] [(.ref a2), (.ref a1)])) (fun _ k => XS.aloadN X1.here hx rfl (hb hby d14_5) rfl rfl k) ?_
  obtain ⟨T2, h2, X2, e2, W2, st2⟩ := putF X1 hx hZ hown (host := "") (Or.inl (hw _ (List.mem_of_getElem? (i := 62) rfl))) Via.refl e1 F_word E1 (Or.inr ⟨(hw _ (List.mem_of_getElem? (i := 63) rfl)), rfl, hnm⟩) (hw _ (List.mem_of_getElem? (i := 53) rfl)) (ty := (.object "java/lang/String")) (by decide) rfl rfl (g := (mkF m 6 #[.val (.ref a1), .val (.ref a2), .val (.ref a3), .val (.ref a4)] [(.ref a2), (.ref a1)])) rfl rfl (hb hby d14_6)
  have N3 := Fr.snoc X2 N0 g1
  have f4 := E1.wr W2
  have f5 := F_word.same W2
  have f6 := F_number.other W2 (Or.inr (slot_ne (Or.inr (hw _ (List.mem_of_getElem? (i := 65) rfl))) (Or.inr (hw _ (List.mem_of_getElem? (i := 63) rfl))) (by decide) (t := (.object "java/lang/String")) (t' := (.object "java/lang/String")) (by decide) (by decide)))
  have f7 := F_paragraph.other W2 (Or.inr (slot_ne (Or.inr (hw _ (List.mem_of_getElem? (i := 67) rfl))) (Or.inr (hw _ (List.mem_of_getElem? (i := 63) rfl))) (by decide) (t := (.object "java/lang/String")) (t' := (.object "java/lang/String")) (by decide) (by decide)))
  have z8 := Nat.le_trans Z0 (Keep.of_wr W2).1
  have K9 := (Keep.refl h0 [a1]).wr W2 (Or.inl (List.mem_of_getElem? (i := 0) rfl))
  refine Go.via (S' := T2.setTop (mkF m 9 #[.val (.ref a1), .val (.ref a2), .val (.ref a3), .val (.ref a4)] [])) (fun _ k => st2 _ k) ?_
  refine Go.via (S' := T2.setTop (mkF m 10 #[.val (.ref a1), .val (.ref a2), .val (.ref a3), .val (.ref a4)] [(.ref a1)])) (fun _ k => XS.aloadN X2.here hx rfl (hb hby d14_9) rfl rfl k) ?_
  refine Go.via (S' := T2.setTop (mkF m 11 #[.val (.ref a1), .val (.ref a2), .val (.ref a3), .val (.ref a4)] [(.ref a3), (.ref a1)])) (fun _ k => XS.aloadN X2.here hx rfl (hb hby d14_10) rfl rfl k) ?_
  obtain ⟨T10, h10, X10, e10, W10, st10⟩ := putF X2 hx hZ hown (host := "") (Or.inl (hw _ (List.mem_of_getElem? (i := 64) rfl))) Via.refl e2 f6 f4 (Or.inr ⟨(hw _ (List.mem_of_getElem? (i := 65) rfl)), rfl, hnm⟩) (hw _ (List.mem_of_getElem? (i := 53) rfl)) (ty := (.object "java/lang/String")) (by decide) rfl rfl (g := (mkF m 11 #[.val (.ref a1), .val (.ref a2), .val (.ref a3), .val (.ref a4)] [(.ref a3), (.ref a1)])) rfl rfl (hb hby d14_11)
  have N11 := Fr.snoc X10 N3 g1
  have f12 := f4.wr W10
  have f13 := f5.other W10 (Or.inr (slot_ne (Or.inr (hw _ (List.mem_of_getElem? (i := 63) rfl))) (Or.inr (hw _ (List.mem_of_getElem? (i := 65) rfl))) (by decide) (t := (.object "java/lang/String")) (t' := (.object "java/lang/String")) (by decide) (by decide)))
  have f14 := f6.same W10
  have f15 := f7.other W10 (Or.inr (slot_ne (Or.inr (hw _ (List.mem_of_getElem? (i := 67) rfl))) (Or.inr (hw _ (List.mem_of_getElem? (i := 65) rfl))) (by decide) (t := (.object "java/lang/String")) (t' := (.object "java/lang/String")) (by decide) (by decide)))
  have z16 := Nat.le_trans z8 (Keep.of_wr W10).1
  have K17 := K9.wr W10 (Or.inl (List.mem_of_getElem? (i := 0) rfl))
  refine Go.via (S' := T10.setTop (mkF m 14 #[.val (.ref a1), .val (.ref a2), .val (.ref a3), .val (.ref a4)] [])) (fun _ k => st10 _ k) ?_
  refine Go.via (S' := T10.setTop (mkF m 15 #[.val (.ref a1), .val (.ref a2), .val (.ref a3), .val (.ref a4)] [(.ref a1)])) (fun _ k => XS.aloadN X10.here hx rfl (hb hby d14_14) rfl rfl k) ?_
  refine Go.via (S' := T10.setTop (mkF m 16 #[.val (.ref a1), .val (.ref a2), .val (.ref a3), .val (.ref a4)] [(.ref a4), (.ref a1)])) (fun _ k => XS.aloadN X10.here hx rfl (hb hby d14_15) rfl rfl k) ?_
  obtain ⟨T18, h18, X18, e18, W18, st18⟩ := putF X10 hx hZ hown (host := "") (Or.inl (hw _ (List.mem_of_getElem? (i := 66) rfl))) Via.refl e10 f15 f12 (Or.inr ⟨(hw _ (List.mem_of_getElem? (i := 67) rfl)), rfl, hnm⟩) (hw _ (List.mem_of_getElem? (i := 53) rfl)) (ty := (.object "java/lang/String")) (by decide) rfl rfl (g := (mkF m 16 #[.val (.ref a1), .val (.ref a2), .val (.ref a3), .val (.ref a4)] [(.ref a4), (.ref a1)])) rfl rfl (hb hby d14_16)
  have N19 := Fr.snoc X18 N11 g1
  have f20 := f12.wr W18
  have f21 := f13.other W18 (Or.inr (slot_ne (Or.inr (hw _ (List.mem_of_getElem? (i := 63) rfl))) (Or.inr (hw _ (List.mem_of_getElem? (i := 67) rfl))) (by decide) (t := (.object "java/lang/String")) (t' := (.object "java/lang/String")) (by decide) (by decide)))
  have f22 := f14.other W18 (Or.inr (slot_ne (Or.inr (hw _ (List.mem_of_getElem? (i := 65) rfl))) (Or.inr (hw _ (List.mem_of_getElem? (i := 67) rfl))) (by decide) (t := (.object "java/lang/String")) (t' := (.object "java/lang/String")) (by decide) (by decide)))
  have f23 := f15.same W18
  have z24 := Nat.le_trans z16 (Keep.of_wr W18).1
  have K25 := K17.wr W18 (Or.inl (List.mem_of_getElem? (i := 0) rfl))
  refine Go.via (S' := T18.setTop (mkF m 19 #[.val (.ref a1), .val (.ref a2), .val (.ref a3), .val (.ref a4)] [])) (fun _ k => st18 _ k) ?_
  exact Go.retV X18 hx (BodyLoose.notSynchronized Bd) Bd.returns (hb hby d14_19) (by rw [e18]; exact ⟨rfl, N19, K25, f21, f22⟩) (by decide) (by decide)
theorem ef_14n (m : MethodId) (x0 : Addr) (x1 : Addr) (x2 : Addr) : entryFrame m #[(.ref x0), (.ref x1), (.ref x2), .null] 4 = mkF m 0 #[.val (.ref x0), .val (.ref x1), .val (.ref x2), .val .null] [] := by first | (simp [entryFrame, mkF, argsToLocals, Value.category]; done) | rfl
def Q14n (Z : State) (a1 : Addr) (a2 : Addr) (a3 : Addr) (h0 : Heap) (n0 : Nat) (v : Option Value) (h : Heap) (L : List Loc) : Prop := v = none ∧ Fr n0 L ∧ Keep h0 h [a1] ∧ Fld Z h a1 "com/example/amendatory/amendatory/ProvisionName" "word" "Ljava/lang/String;" (.ref a2) ∧ Fld Z h a1 "com/example/amendatory/amendatory/ProvisionName" "number" "Ljava/lang/String;" (.ref a3)
set_option maxRecDepth 65536 in
set_option maxHeartbeats 40000000 in
theorem rm14n (l : Launch) (Z : State) (a0 : Array Value) (hw : ∀ d ∈ tables_1, d.before a0 Z = true) (ws : List Jvm.Cond) (a1 : Addr) (a2 : Addr) (a3 : Addr) (h0 : Heap) (n0 : Nat) (Z0 : n0 ≤ h0.size) (E1 : Exa Z h0 a1 "com/example/amendatory/amendatory/ProvisionName") (F_word : Fld Z h0 a1 "com/example/amendatory/amendatory/ProvisionName" "word" "Ljava/lang/String;" .null) (F_number : Fld Z h0 a1 "com/example/amendatory/amendatory/ProvisionName" "number" "Ljava/lang/String;" .null) (F_paragraph : Fld Z h0 a1 "com/example/amendatory/amendatory/ProvisionName" "paragraph" "Ljava/lang/String;" .null) (g1 : n0 ≤ a1) :
    MetFree l (⟨"com/example/amendatory/amendatory/ProvisionName", "<init>", "(Ljava/lang/String;Ljava/lang/String;Ljava/lang/String;)V"⟩ : MethodName) (head1 (Jvm.Cond.code (⟨"com/example/amendatory/amendatory/ProvisionName", "<init>", "(Ljava/lang/String;Ljava/lang/String;Ljava/lang/String;)V"⟩ : MethodName) prog_70_method_2_code 4 none :: ws) ({ frames := 1, cells := 0, slots := 0, locals := 12 } : Room)) (fun a U => a = #[(.ref a1), (.ref a2), (.ref a3), .null] ∧ Z.Warmed39 U.vm ∧ U.heap = h0) (fun _ _ _ _ _ => True) (fun _ U o U' => ∃ v L, o = .returned v ∧ Q14n Z a1 a2 a3 h0 n0 v U'.heap L ∧ FrameEnd U o U' L ({ frames := 1, cells := 0, slots := 0, locals := 12 } : Room).cells ({ frames := 1, cells := 0, slots := 0, locals := 12 } : Room).slots) := by
  refine MetFree.of_bodySF (plainFor_of_name pn_3) hisR ?_
  intro p e s m args below meth c s₁ Bd hml0 hP hK
  obtain ⟨rfl, hZ, hh⟩ := hP
  have hx := Bd.exec
  have hby := Bd.bytes
  have hml : c.maxLocals = 4 := hml0
  have hown : s.vm.findClass "com/example/amendatory/amendatory/ProvisionName" = some m.cls := findClass_of_methodNamed Bd.named
  have hnm := (name_of_methodNamed Bd.named Bd.method).1
  have X0 : Stand p l e ({ frames := 1, cells := 0, slots := 0, locals := 12 } : Room) s m #[(.ref a1), (.ref a2), (.ref a3), .null] below meth c s₁ [] 0 0 := Stand.of_body Bd
  have e0 : s₁.heap = h0 := by rw [← hh, Bd.state]; rfl
  have N0 := Fr.nil n0
  show Go p e below s (Q14n Z a1 a2 a3 h0 n0) ({ frames := 1, cells := 0, slots := 0, locals := 12 } : Room).cells ({ frames := 1, cells := 0, slots := 0, locals := 12 } : Room).slots _
  refine Go.via (S' := s₁.setTop (mkF m 0 #[.val (.ref a1), .val (.ref a2), .val (.ref a3), .val .null] [])) (fun t k => castTop (ef_14n m a1 a2 a3) k) ?_
  refine Go.via (S' := s₁.setTop (mkF m 1 #[.val (.ref a1), .val (.ref a2), .val (.ref a3), .val .null] [(.ref a1)])) (fun _ k => XS.aloadN X0.here hx rfl (hb hby d14_0) rfl rfl k) ?_
  obtain ⟨T1, X1, e1, st1⟩ := initO X0 hx hZ hown (hw _ (List.mem_of_getElem? (i := 61) rfl)) (hw _ (List.mem_of_getElem? (i := 20) rfl)) (hw _ (List.mem_of_getElem? (i := 21) rfl)) e0 (g := (mkF m 1 #[.val (.ref a1), .val (.ref a2), .val (.ref a3), .val .null] [(.ref a1)])) rfl (by rw [hml]; rfl) rfl (hb hby d14_1) (by decide) (W := 0) (by show 2 * 0 + _ ≤ _; exact Nat.le_of_eq rfl) (by decide)
  refine Go.via (S' := T1.setTop (mkF m 4 #[.val (.ref a1), .val (.ref a2), .val (.ref a3), .val .null] [])) (fun _ k => st1 _ k) ?_
  refine Go.via (S' := T1.setTop (mkF m 5 #[.val (.ref a1), .val (.ref a2), .val (.ref a3), .val .null] [(.ref a1)])) (fun _ k => XS.aloadN X1.here hx rfl (hb hby d14_4) rfl rfl k) ?_
  refine Go.via (S' := T1.setTop (mkF m 6 #[.val (.ref a1), .val (.ref a2), .val (.ref a3), .val .null] [(.ref a2), (.ref a1)])) (fun _ k => XS.aloadN X1.here hx rfl (hb hby d14_5) rfl rfl k) ?_
  obtain ⟨T2, h2, X2, e2, W2, st2⟩ := putF X1 hx hZ hown (host := "") (Or.inl (hw _ (List.mem_of_getElem? (i := 62) rfl))) Via.refl e1 F_word E1 (Or.inr ⟨(hw _ (List.mem_of_getElem? (i := 63) rfl)), rfl, hnm⟩) (hw _ (List.mem_of_getElem? (i := 53) rfl)) (ty := (.object "java/lang/String")) (by decide) rfl rfl (g := (mkF m 6 #[.val (.ref a1), .val (.ref a2), .val (.ref a3), .val .null] [(.ref a2), (.ref a1)])) rfl rfl (hb hby d14_6)
  have N3 := Fr.snoc X2 N0 g1
  have f4 := E1.wr W2
  have f5 := F_word.same W2
  have f6 := F_number.other W2 (Or.inr (slot_ne (Or.inr (hw _ (List.mem_of_getElem? (i := 65) rfl))) (Or.inr (hw _ (List.mem_of_getElem? (i := 63) rfl))) (by decide) (t := (.object "java/lang/String")) (t' := (.object "java/lang/String")) (by decide) (by decide)))
  have f7 := F_paragraph.other W2 (Or.inr (slot_ne (Or.inr (hw _ (List.mem_of_getElem? (i := 67) rfl))) (Or.inr (hw _ (List.mem_of_getElem? (i := 63) rfl))) (by decide) (t := (.object "java/lang/String")) (t' := (.object "java/lang/String")) (by decide) (by decide)))
  have z8 := Nat.le_trans Z0 (Keep.of_wr W2).1
  have K9 := (Keep.refl h0 [a1]).wr W2 (Or.inl (List.mem_of_getElem? (i := 0) rfl))
  refine Go.via (S' := T2.setTop (mkF m 9 #[.val (.ref a1), .val (.ref a2), .val (.ref a3), .val .null] [])) (fun _ k => st2 _ k) ?_
  refine Go.via (S' := T2.setTop (mkF m 10 #[.val (.ref a1), .val (.ref a2), .val (.ref a3), .val .null] [(.ref a1)])) (fun _ k => XS.aloadN X2.here hx rfl (hb hby d14_9) rfl rfl k) ?_
  refine Go.via (S' := T2.setTop (mkF m 11 #[.val (.ref a1), .val (.ref a2), .val (.ref a3), .val .null] [(.ref a3), (.ref a1)])) (fun _ k => XS.aloadN X2.here hx rfl (hb hby d14_10) rfl rfl k) ?_
  obtain ⟨T10, h10, X10, e10, W10, st10⟩ := putF X2 hx hZ hown (host := "") (Or.inl (hw _ (List.mem_of_getElem? (i := 64) rfl))) Via.refl e2 f6 f4 (Or.inr ⟨(hw _ (List.mem_of_getElem? (i := 65) rfl)), rfl, hnm⟩) (hw _ (List.mem_of_getElem? (i := 53) rfl)) (ty := (.object "java/lang/String")) (by decide) rfl rfl (g := (mkF m 11 #[.val (.ref a1), .val (.ref a2), .val (.ref a3), .val .null] [(.ref a3), (.ref a1)])) rfl rfl (hb hby d14_11)
  have N11 := Fr.snoc X10 N3 g1
  have f12 := f4.wr W10
  have f13 := f5.other W10 (Or.inr (slot_ne (Or.inr (hw _ (List.mem_of_getElem? (i := 63) rfl))) (Or.inr (hw _ (List.mem_of_getElem? (i := 65) rfl))) (by decide) (t := (.object "java/lang/String")) (t' := (.object "java/lang/String")) (by decide) (by decide)))
  have f14 := f6.same W10
  have f15 := f7.other W10 (Or.inr (slot_ne (Or.inr (hw _ (List.mem_of_getElem? (i := 67) rfl))) (Or.inr (hw _ (List.mem_of_getElem? (i := 65) rfl))) (by decide) (t := (.object "java/lang/String")) (t' := (.object "java/lang/String")) (by decide) (by decide)))
  have z16 := Nat.le_trans z8 (Keep.of_wr W10).1
  have K17 := K9.wr W10 (Or.inl (List.mem_of_getElem? (i := 0) rfl))
  refine Go.via (S' := T10.setTop (mkF m 14 #[.val (.ref a1), .val (.ref a2), .val (.ref a3), .val .null] [])) (fun _ k => st10 _ k) ?_
  refine Go.via (S' := T10.setTop (mkF m 15 #[.val (.ref a1), .val (.ref a2), .val (.ref a3), .val .null] [(.ref a1)])) (fun _ k => XS.aloadN X10.here hx rfl (hb hby d14_14) rfl rfl k) ?_
  refine Go.via (S' := T10.setTop (mkF m 16 #[.val (.ref a1), .val (.ref a2), .val (.ref a3), .val .null] [.null, (.ref a1)])) (fun _ k => XS.aloadN X10.here hx rfl (hb hby d14_15) rfl rfl k) ?_
  obtain ⟨T18, h18, X18, e18, W18, st18⟩ := putF X10 hx hZ hown (host := "") (Or.inl (hw _ (List.mem_of_getElem? (i := 66) rfl))) Via.refl e10 f15 f12 (Or.inr ⟨(hw _ (List.mem_of_getElem? (i := 67) rfl)), rfl, hnm⟩) (hw _ (List.mem_of_getElem? (i := 53) rfl)) (ty := (.object "java/lang/String")) (by decide) rfl rfl (g := (mkF m 16 #[.val (.ref a1), .val (.ref a2), .val (.ref a3), .val .null] [.null, (.ref a1)])) rfl rfl (hb hby d14_16)
  have N19 := Fr.snoc X18 N11 g1
  have f20 := f12.wr W18
  have f21 := f13.other W18 (Or.inr (slot_ne (Or.inr (hw _ (List.mem_of_getElem? (i := 63) rfl))) (Or.inr (hw _ (List.mem_of_getElem? (i := 67) rfl))) (by decide) (t := (.object "java/lang/String")) (t' := (.object "java/lang/String")) (by decide) (by decide)))
  have f22 := f14.other W18 (Or.inr (slot_ne (Or.inr (hw _ (List.mem_of_getElem? (i := 65) rfl))) (Or.inr (hw _ (List.mem_of_getElem? (i := 67) rfl))) (by decide) (t := (.object "java/lang/String")) (t' := (.object "java/lang/String")) (by decide) (by decide)))
  have f23 := f15.same W18
  have z24 := Nat.le_trans z16 (Keep.of_wr W18).1
  have K25 := K17.wr W18 (Or.inl (List.mem_of_getElem? (i := 0) rfl))
  refine Go.via (S' := T18.setTop (mkF m 19 #[.val (.ref a1), .val (.ref a2), .val (.ref a3), .val .null] [])) (fun _ k => st18 _ k) ?_
  exact Go.retV X18 hx (BodyLoose.notSynchronized Bd) Bd.returns (hb hby d14_19) (by rw [e18]; exact ⟨rfl, N19, K25, f21, f22⟩) (by decide) (by decide)
theorem d13_0 : decode prog_70_method_1_code 0 = .ok (.aload_n 0, 1) := by decide +kernel
theorem d13_1 : decode prog_70_method_1_code 1 = .ok (.aload_n 1, 1) := by decide +kernel
theorem d13_2 : decode prog_70_method_1_code 2 = .ok (.aload_n 2, 1) := by decide +kernel
theorem d13_3 : decode prog_70_method_1_code 3 = .ok (.aconst_null, 1) := by decide +kernel
theorem d13_4 : decode prog_70_method_1_code 4 = .ok (.invokespecial 1, 3) := by decide +kernel
theorem pd_4 : parseMethodDescriptor "(Ljava/lang/String;Ljava/lang/String;Ljava/lang/String;)V" = some ⟨[(.object "java/lang/String"), (.object "java/lang/String"), (.object "java/lang/String")], none⟩ := by decide +kernel
theorem d13_7 : decode prog_70_method_1_code 7 = .ok (.return_, 1) := by decide +kernel
theorem ef_13 (m : MethodId) (x0 : Addr) (x1 : Addr) (x2 : Addr) : entryFrame m #[(.ref x0), (.ref x1), (.ref x2)] 3 = mkF m 0 #[.val (.ref x0), .val (.ref x1), .val (.ref x2)] [] := by first | (simp [entryFrame, mkF, argsToLocals, Value.category]; done) | rfl
def Q13 (Z : State) (a1 : Addr) (a2 : Addr) (a3 : Addr) (h0 : Heap) (n0 : Nat) (v : Option Value) (h : Heap) (L : List Loc) : Prop := v = none ∧ Fr n0 L ∧ Keep h0 h [a1] ∧ Fld Z h a1 "com/example/amendatory/amendatory/ProvisionName" "word" "Ljava/lang/String;" (.ref a2) ∧ Fld Z h a1 "com/example/amendatory/amendatory/ProvisionName" "number" "Ljava/lang/String;" (.ref a3)
set_option maxRecDepth 65536 in
set_option maxHeartbeats 40000000 in
theorem rm13 (l : Launch) (Z : State) (a0 : Array Value) (hw : ∀ d ∈ tables_1, d.before a0 Z = true) (ws : List Jvm.Cond) (a1 : Addr) (a2 : Addr) (a3 : Addr) (h0 : Heap) (n0 : Nat) (Z0 : n0 ≤ h0.size) (E1 : Exa Z h0 a1 "com/example/amendatory/amendatory/ProvisionName") (F_word : Fld Z h0 a1 "com/example/amendatory/amendatory/ProvisionName" "word" "Ljava/lang/String;" .null) (F_number : Fld Z h0 a1 "com/example/amendatory/amendatory/ProvisionName" "number" "Ljava/lang/String;" .null) (F_paragraph : Fld Z h0 a1 "com/example/amendatory/amendatory/ProvisionName" "paragraph" "Ljava/lang/String;" .null) (g1 : n0 ≤ a1) :
    MetFree l (⟨"com/example/amendatory/amendatory/ProvisionName", "<init>", "(Ljava/lang/String;Ljava/lang/String;)V"⟩ : MethodName) (head1 (Jvm.Cond.code (⟨"com/example/amendatory/amendatory/ProvisionName", "<init>", "(Ljava/lang/String;Ljava/lang/String;)V"⟩ : MethodName) prog_70_method_1_code 3 none :: ws) ({ frames := 2, cells := 0, slots := 0, locals := 27 } : Room)) (fun a U => a = #[(.ref a1), (.ref a2), (.ref a3)] ∧ Z.Warmed39 U.vm ∧ U.heap = h0) (fun _ _ _ _ _ => True) (fun _ U o U' => ∃ v L, o = .returned v ∧ Q13 Z a1 a2 a3 h0 n0 v U'.heap L ∧ FrameEnd U o U' L ({ frames := 2, cells := 0, slots := 0, locals := 27 } : Room).cells ({ frames := 2, cells := 0, slots := 0, locals := 27 } : Room).slots) := by
  refine MetFree.of_bodySF (plainFor_of_name pn_3) hisR ?_
  intro p e s m args below meth c s₁ Bd hml0 hP hK
  obtain ⟨rfl, hZ, hh⟩ := hP
  have hx := Bd.exec
  have hby := Bd.bytes
  have hml : c.maxLocals = 3 := hml0
  have hown : s.vm.findClass "com/example/amendatory/amendatory/ProvisionName" = some m.cls := findClass_of_methodNamed Bd.named
  have hnm := (name_of_methodNamed Bd.named Bd.method).1
  have X0 : Stand p l e ({ frames := 2, cells := 0, slots := 0, locals := 27 } : Room) s m #[(.ref a1), (.ref a2), (.ref a3)] below meth c s₁ [] 0 0 := Stand.of_body Bd
  have e0 : s₁.heap = h0 := by rw [← hh, Bd.state]; rfl
  have N0 := Fr.nil n0
  show Go p e below s (Q13 Z a1 a2 a3 h0 n0) ({ frames := 2, cells := 0, slots := 0, locals := 27 } : Room).cells ({ frames := 2, cells := 0, slots := 0, locals := 27 } : Room).slots _
  refine Go.via (S' := s₁.setTop (mkF m 0 #[.val (.ref a1), .val (.ref a2), .val (.ref a3)] [])) (fun t k => castTop (ef_13 m a1 a2 a3) k) ?_
  refine Go.via (S' := s₁.setTop (mkF m 1 #[.val (.ref a1), .val (.ref a2), .val (.ref a3)] [(.ref a1)])) (fun _ k => XS.aloadN X0.here hx rfl (hb hby d13_0) rfl rfl k) ?_
  refine Go.via (S' := s₁.setTop (mkF m 2 #[.val (.ref a1), .val (.ref a2), .val (.ref a3)] [(.ref a2), (.ref a1)])) (fun _ k => XS.aloadN X0.here hx rfl (hb hby d13_1) rfl rfl k) ?_
  refine Go.via (S' := s₁.setTop (mkF m 3 #[.val (.ref a1), .val (.ref a2), .val (.ref a3)] [(.ref a3), (.ref a2), (.ref a1)])) (fun _ k => XS.aloadN X0.here hx rfl (hb hby d13_2) rfl rfl k) ?_
  refine Go.via (S' := s₁.setTop (mkF m 4 #[.val (.ref a1), .val (.ref a2), .val (.ref a3)] [.null, (.ref a3), (.ref a2), (.ref a1)])) (fun _ k => XS.aconstNull X0.here hx rfl (hb hby d13_3) k) ?_
  obtain ⟨_, _, ⟨T1, L1, k1, n1⟩, -, X1, ⟨Lc1, hQ1, l1, y1, z1⟩, st1⟩ := X0.specialBack hx (y := (⟨"com/example/amendatory/amendatory/ProvisionName", "<init>", "(Ljava/lang/String;Ljava/lang/String;Ljava/lang/String;)V"⟩ : MethodName)) rfl hown (mvT hZ (hw _ (List.mem_of_getElem? (i := 58) rfl))) (mvT hZ (hw _ (List.mem_of_getElem? (i := 59) rfl))) (mvT hZ (hw _ (List.mem_of_getElem? (i := 60) rfl))) (by decide) (backOf (W := 0) (rm14n l Z a0 hw [] a1 a2 a3 h0 n0 Z0 E1 F_word F_number F_paragraph g1) hZ (hw _ (List.mem_of_getElem? (i := 60) rfl)) (hw _ (List.mem_of_getElem? (i := 54) rfl)) (by decide) (by decide)) (g := (mkF m 4 #[.val (.ref a1), .val (.ref a2), .val (.ref a3)] [.null, (.ref a3), (.ref a2), (.ref a1)])) rfl (by rw [hml]; rfl) (Steps.refl _) (a := a1) (argsL := [(.ref a2), (.ref a3), .null]) (rest := []) (lenOf pd_4 rfl) rfl (by show 2 * 0 + _ ≤ _; exact Nat.le_of_eq rfl) (hb hby d13_4) (fun _ _ => ⟨rfl, e0, (by decide : 0 + 0 ≤ _), (by decide : 0 + 0 ≤ _)⟩)
  dsimp only [Pt.U, Pt.locs, Pt.cells, Pt.slots] at X1 l1 y1 z1 st1 hQ1
  subst l1 y1 z1
  obtain ⟨rfl, N1q, K1, Fw1, Fn1⟩ := hQ1
  have N2 := Fr.app N0 N1q
  have f3 := E1.keep K1
  have z4 := Nat.le_trans Z0 K1.1
  have K5 := (Keep.refl h0 [a1]).trans K1 (allS (Or.inl (List.mem_of_getElem? (i := 0) rfl)) all0)
  refine Go.via (S' := T1.setTop (mkF m 7 #[.val (.ref a1), .val (.ref a2), .val (.ref a3)] [])) (fun _ k => st1.trans k) ?_
  exact Go.retV X1 hx (BodyLoose.notSynchronized Bd) Bd.returns (hb hby d13_7) ⟨rfl, N2, K5, Fw1, Fn1⟩ (by decide) (by decide)
theorem d15_0 : decode prog_70_method_3_code 0 = .ok (.new 2, 3) := by decide +kernel
theorem d15_3 : decode prog_70_method_3_code 3 = .ok (.dup, 1) := by decide +kernel
theorem d15_4 : decode prog_70_method_3_code 4 = .ok (.aload_n 0, 1) := by decide +kernel
theorem d15_5 : decode prog_70_method_3_code 5 = .ok (.getfield 12, 3) := by decide +kernel
theorem d15_8 : decode prog_70_method_3_code 8 = .ok (.aload_n 0, 1) := by decide +kernel
theorem d15_9 : decode prog_70_method_3_code 9 = .ok (.getfield 16, 3) := by decide +kernel
theorem d15_12 : decode prog_70_method_3_code 12 = .ok (.aload_n 1, 1) := by decide +kernel
theorem d15_13 : decode prog_70_method_3_code 13 = .ok (.invokespecial 1, 3) := by decide +kernel
theorem d15_16 : decode prog_70_method_3_code 16 = .ok (.areturn, 1) := by decide +kernel
theorem ef_15 (m : MethodId) (x0 : Addr) (x1 : Addr) : entryFrame m #[(.ref x0), (.ref x1)] 2 = mkF m 0 #[.val (.ref x0), .val (.ref x1)] [] := by first | (simp [entryFrame, mkF, argsToLocals, Value.category]; done) | rfl
def Q15 (Z : State) (a1 : Addr) (a2 : Addr) (wd : Addr) (x : Addr) (h0 : Heap) (n0 : Nat) (v : Option Value) (h : Heap) (L : List Loc) : Prop := ∃ r : Addr, v = some (.ref r) ∧ Fr n0 L ∧ Keep h0 h [] ∧ Exa Z h r "com/example/amendatory/amendatory/ProvisionName" ∧ Fld Z h r "com/example/amendatory/amendatory/ProvisionName" "number" "Ljava/lang/String;" (.ref x)
set_option maxRecDepth 65536 in
set_option maxHeartbeats 40000000 in
theorem rm15 (l : Launch) (Z : State) (a0 : Array Value) (hw : ∀ d ∈ tables_1, d.before a0 Z = true) (ws : List Jvm.Cond) (a1 : Addr) (a2 : Addr) (wd : Addr) (x : Addr) (h0 : Heap) (n0 : Nat) (Z0 : n0 ≤ h0.size) (F1 : Fld Z h0 a1 "com/example/amendatory/amendatory/ProvisionName" "word" "Ljava/lang/String;" (.ref wd)) (F2 : Fld Z h0 a1 "com/example/amendatory/amendatory/ProvisionName" "number" "Ljava/lang/String;" (.ref x)) :
    MetFree l (⟨"com/example/amendatory/amendatory/ProvisionName", "paragraph", "(Ljava/lang/String;)Lcom/example/amendatory/amendatory/ProvisionName;"⟩ : MethodName) (head1 (Jvm.Cond.code (⟨"com/example/amendatory/amendatory/ProvisionName", "paragraph", "(Ljava/lang/String;)Lcom/example/amendatory/amendatory/ProvisionName;"⟩ : MethodName) prog_70_method_3_code 2 (some (.object "com/example/amendatory/amendatory/ProvisionName")) :: ws) ({ frames := 2, cells := 1, slots := 3, locals := 28 } : Room)) (fun a U => a = #[(.ref a1), (.ref a2)] ∧ Z.Warmed39 U.vm ∧ U.heap = h0) (fun _ _ _ _ _ => True) (fun _ U o U' => ∃ v L, o = .returned v ∧ Q15 Z a1 a2 wd x h0 n0 v U'.heap L ∧ FrameEnd U o U' L ({ frames := 2, cells := 1, slots := 3, locals := 28 } : Room).cells ({ frames := 2, cells := 1, slots := 3, locals := 28 } : Room).slots) := by
  refine MetFree.of_bodySF (plainFor_of_name pn_3) hisR ?_
  intro p e s m args below meth c s₁ Bd hml0 hP hK
  obtain ⟨rfl, hZ, hh⟩ := hP
  have hx := Bd.exec
  have hby := Bd.bytes
  have hml : c.maxLocals = 2 := hml0
  have hown : s.vm.findClass "com/example/amendatory/amendatory/ProvisionName" = some m.cls := findClass_of_methodNamed Bd.named
  have hnm := (name_of_methodNamed Bd.named Bd.method).1
  have X0 : Stand p l e ({ frames := 2, cells := 1, slots := 3, locals := 28 } : Room) s m #[(.ref a1), (.ref a2)] below meth c s₁ [] 0 0 := Stand.of_body Bd
  have e0 : s₁.heap = h0 := by rw [← hh, Bd.state]; rfl
  have N0 := Fr.nil n0
  show Go p e below s (Q15 Z a1 a2 wd x h0 n0) ({ frames := 2, cells := 1, slots := 3, locals := 28 } : Room).cells ({ frames := 2, cells := 1, slots := 3, locals := 28 } : Room).slots _
  refine Go.via (S' := s₁.setTop (mkF m 0 #[.val (.ref a1), .val (.ref a2)] [])) (fun t k => castTop (ef_15 m a1 a2) k) ?_
  obtain ⟨T1, h1, X1, e1, E1, A1, D1, -, st1⟩ := newO X0 hx hZ hown (hw _ (List.mem_of_getElem? (i := 73) rfl)) (hw _ (List.mem_of_getElem? (i := 53) rfl)) (hw _ (List.mem_of_getElem? (i := 54) rfl)) e0 (g := (mkF m 0 #[.val (.ref a1), .val (.ref a2)] [])) rfl (hb hby d15_0) (by decide) (by decide)
  obtain ⟨b1, g1⟩ : ∃ z, z = h0.size := ⟨_, rfl⟩
  rw [← g1] at A1 D1 st1
  have ne2 : a1 ≠ b1 := Nat.ne_of_lt (Nat.lt_of_lt_of_le F1.lt (Nat.le_of_eq g1.symm))
  have g3 : n0 ≤ b1 := Nat.le_trans Z0 (Nat.le_of_eq g1.symm)
  have g4 : h0.size ≤ b1 := Nat.le_trans (Keep.refl h0 []).1 (Nat.le_of_eq g1.symm)
  have f5 := F1.ext E1
  have f6 := F2.ext E1
  have z7 := Nat.le_trans Z0 E1.1
  have K8 := (Keep.refl h0 []).ext E1
  have F9 : Fld Z h1 b1 "com/example/amendatory/amendatory/ProvisionName" "word" "Ljava/lang/String;" .null := D1 (Or.inr (hw _ (List.mem_of_getElem? (i := 63) rfl))) (ty := (.object "java/lang/String")) (by decide)
  have F10 : Fld Z h1 b1 "com/example/amendatory/amendatory/ProvisionName" "number" "Ljava/lang/String;" .null := D1 (Or.inr (hw _ (List.mem_of_getElem? (i := 65) rfl))) (ty := (.object "java/lang/String")) (by decide)
  have F11 : Fld Z h1 b1 "com/example/amendatory/amendatory/ProvisionName" "paragraph" "Ljava/lang/String;" .null := D1 (Or.inr (hw _ (List.mem_of_getElem? (i := 67) rfl))) (ty := (.object "java/lang/String")) (by decide)
  refine Go.via (S' := T1.setTop (mkF m 3 #[.val (.ref a1), .val (.ref a2)] [(.ref b1)])) (fun _ k => st1 _ k) ?_
  refine Go.via (S' := T1.setTop (mkF m 4 #[.val (.ref a1), .val (.ref a2)] [(.ref b1), (.ref b1)])) (fun _ k => XS.dup X1.here hx rfl (hb hby d15_3) rfl rfl k) ?_
  refine Go.via (S' := T1.setTop (mkF m 5 #[.val (.ref a1), .val (.ref a2)] [(.ref a1), (.ref b1), (.ref b1)])) (fun _ k => XS.aloadN X1.here hx rfl (hb hby d15_4) rfl rfl k) ?_
  obtain ⟨T12, X12, e12, st12⟩ := getF X1 hx hZ hown (host := "") (Or.inl (hw _ (List.mem_of_getElem? (i := 62) rfl))) Via.refl e1 f5 (g := (mkF m 5 #[.val (.ref a1), .val (.ref a2)] [(.ref a1), (.ref b1), (.ref b1)])) rfl rfl (hb hby d15_5)
  refine Go.via (S' := T12.setTop (mkF m 8 #[.val (.ref a1), .val (.ref a2)] [(.ref wd), (.ref b1), (.ref b1)])) (fun _ k => st12 _ k) ?_
  refine Go.via (S' := T12.setTop (mkF m 9 #[.val (.ref a1), .val (.ref a2)] [(.ref a1), (.ref wd), (.ref b1), (.ref b1)])) (fun _ k => XS.aloadN X12.here hx rfl (hb hby d15_8) rfl rfl k) ?_
  obtain ⟨T13, X13, e13, st13⟩ := getF X12 hx hZ hown (host := "") (Or.inl (hw _ (List.mem_of_getElem? (i := 64) rfl))) Via.refl e12 f6 (g := (mkF m 9 #[.val (.ref a1), .val (.ref a2)] [(.ref a1), (.ref wd), (.ref b1), (.ref b1)])) rfl rfl (hb hby d15_9)
  refine Go.via (S' := T13.setTop (mkF m 12 #[.val (.ref a1), .val (.ref a2)] [(.ref x), (.ref wd), (.ref b1), (.ref b1)])) (fun _ k => st13 _ k) ?_
  refine Go.via (S' := T13.setTop (mkF m 13 #[.val (.ref a1), .val (.ref a2)] [(.ref a2), (.ref x), (.ref wd), (.ref b1), (.ref b1)])) (fun _ k => XS.aloadN X13.here hx rfl (hb hby d15_12) rfl rfl k) ?_
  obtain ⟨_, _, ⟨T14, L14, k14, n14⟩, -, X14, ⟨Lc14, hQ14, l14, y14, z14⟩, st14⟩ := X13.specialBack hx (y := (⟨"com/example/amendatory/amendatory/ProvisionName", "<init>", "(Ljava/lang/String;Ljava/lang/String;Ljava/lang/String;)V"⟩ : MethodName)) rfl hown (mvT hZ (hw _ (List.mem_of_getElem? (i := 58) rfl))) (mvT hZ (hw _ (List.mem_of_getElem? (i := 59) rfl))) (mvT hZ (hw _ (List.mem_of_getElem? (i := 60) rfl))) (by decide) (backOf (W := 1) (rm14 l Z a0 hw [] b1 wd x a2 h1 n0 z7 A1 F9 F10 F11 g3) hZ (hw _ (List.mem_of_getElem? (i := 60) rfl)) (hw _ (List.mem_of_getElem? (i := 54) rfl)) (by decide) (by decide)) (g := (mkF m 13 #[.val (.ref a1), .val (.ref a2)] [(.ref a2), (.ref x), (.ref wd), (.ref b1), (.ref b1)])) rfl (by rw [hml]; rfl) (Steps.refl _) (a := b1) (argsL := [(.ref wd), (.ref x), (.ref a2)]) (rest := [(.ref b1)]) (lenOf pd_4 rfl) rfl (by show 2 * 0 + _ ≤ _; exact Nat.le_of_eq rfl) (hb hby d15_13) (fun _ _ => ⟨rfl, e13, (by decide : 1 + 0 ≤ _), (by decide : 3 + 0 ≤ _)⟩)
  dsimp only [Pt.U, Pt.locs, Pt.cells, Pt.slots] at X14 l14 y14 z14 st14 hQ14
  subst l14 y14 z14
  obtain ⟨rfl, N14q, K14, Fw14, Fn14⟩ := hQ14
  have N15 := Fr.app N0 N14q
  have f16 := f5.keep K14 (ninS ne2 nin0)
  have f17 := f6.keep K14 (ninS ne2 nin0)
  have f18 := A1.keep K14
  have z19 := Nat.le_trans z7 K14.1
  have K20 := K8.trans K14 (allS (Or.inr g4) all0)
  refine Go.via (S' := T14.setTop (mkF m 16 #[.val (.ref a1), .val (.ref a2)] [(.ref b1)])) (fun _ k => st14.trans k) ?_
  exact Go.retA X14 hx (BodyLoose.notSynchronized Bd) Bd.returns rfl rfl rfl (hb hby d15_16) ⟨_, rfl, N15, K20, f18, Fn14⟩ (by decide) (by decide)
theorem d19_0 : decode jdk_42_method_154_code 0 = .ok (.getstatic 38, 3) := by decide +kernel
theorem d19_3 : decode jdk_42_method_154_code 3 = .ok (.ifCond .eq 14, 3) := by decide +kernel
theorem d19_6 : decode jdk_42_method_154_code 6 = .ok (.aload_n 0, 1) := by decide +kernel
theorem d19_7 : decode jdk_42_method_154_code 7 = .ok (.getfield 15, 3) := by decide +kernel
theorem d19_10 : decode jdk_42_method_154_code 10 = .ok (.ifCond .ne 7, 3) := by decide +kernel
theorem d19_13 : decode jdk_42_method_154_code 13 = .ok (.iconst 1, 1) := by decide +kernel
theorem d19_14 : decode jdk_42_method_154_code 14 = .ok (.goto 4, 3) := by decide +kernel
theorem d19_18 : decode jdk_42_method_154_code 18 = .ok (.ireturn, 1) := by decide +kernel
theorem ef_19 (m : MethodId) (x0 : Addr) : entryFrame m #[(.ref x0)] 1 = mkF m 0 #[.val (.ref x0)] [] := by first | (simp [entryFrame, mkF, argsToLocals, Value.category]; done) | rfl
def Q19 (Z : State) (a1 : Addr) (G1 : Int32) (h0 : Heap) (n0 : Nat) (v : Option Value) (h : Heap) (L : List Loc) : Prop := v = some (.int 1) ∧ Fr n0 L ∧ h = h0
set_option maxRecDepth 65536 in
set_option maxHeartbeats 40000000 in
theorem rm19 (l : Launch) (Z : State) (a0 : Array Value) (hw : ∀ d ∈ tables_1, d.before a0 Z = true) (ws : List Jvm.Cond) (a1 : Addr) (G1 : Int32) (h0 : Heap) (n0 : Nat) (Z0 : n0 ≤ h0.size) (X00 : Old Z n0 h0) (O2 : Sta Z Z.heap "java/lang/String" "COMPACT_STRINGS" "Z" (.int G1)) (P5 : ¬ G1 = (0 : Int32)) (F2 : Fld Z h0 a1 "java/lang/String" "coder" "B" (.int (0 : Int32))) :
    MetFree l (⟨"java/lang/String", "isLatin1", "()Z"⟩ : MethodName) (head1 (Jvm.Cond.code (⟨"java/lang/String", "isLatin1", "()Z"⟩ : MethodName) jdk_42_method_154_code 1 (some .boolean) :: ws) ({ frames := 0, cells := 0, slots := 0, locals := 0 } : Room)) (fun a U => a = #[(.ref a1)] ∧ Z.Warmed39 U.vm ∧ U.heap = h0) (fun _ _ _ _ _ => True) (fun _ U o U' => ∃ v L, o = .returned v ∧ Q19 Z a1 G1 h0 n0 v U'.heap L ∧ FrameEnd U o U' L ({ frames := 0, cells := 0, slots := 0, locals := 0 } : Room).cells ({ frames := 0, cells := 0, slots := 0, locals := 0 } : Room).slots) := by
  refine MetFree.of_bodySF (plainFor_of_name pn_2) hisR ?_
  intro p e s m args below meth c s₁ Bd hml0 hP hK
  obtain ⟨rfl, hZ, hh⟩ := hP
  have hx := Bd.exec
  have hby := Bd.bytes
  have hml : c.maxLocals = 1 := hml0
  have hown : s.vm.findClass "java/lang/String" = some m.cls := findClass_of_methodNamed Bd.named
  have hnm := (name_of_methodNamed Bd.named Bd.method).1
  have X0 : Stand p l e ({ frames := 0, cells := 0, slots := 0, locals := 0 } : Room) s m #[(.ref a1)] below meth c s₁ [] 0 0 := Stand.of_body Bd
  have e0 : s₁.heap = h0 := by rw [← hh, Bd.state]; rfl
  have N0 := Fr.nil n0
  show Go p e below s (Q19 Z a1 G1 h0 n0) ({ frames := 0, cells := 0, slots := 0, locals := 0 } : Room).cells ({ frames := 0, cells := 0, slots := 0, locals := 0 } : Room).slots _
  refine Go.via (S' := s₁.setTop (mkF m 0 #[.val (.ref a1)] [])) (fun t k => castTop (ef_19 m a1) k) ?_
  have Sg := O2.ext X00.2
  obtain ⟨T1, X1, e1, st1⟩ := getS2 X0 hx hZ hown (host := "") (Or.inl (hw _ (List.mem_of_getElem? (i := 22) rfl))) Via.refl e0 Sg (g := (mkF m 0 #[.val (.ref a1)] [])) rfl (hb hby d19_0)
  refine Go.via (S' := T1.setTop (mkF m 3 #[.val (.ref a1)] [(.int G1)])) (fun _ k => st1 _ k) ?_
  refine Go.via (S' := T1.setTop (mkF m 6 #[.val (.ref a1)] [])) (fun _ k => XS.ifNo X1.here hx rfl (hb hby d19_3) rfl ((if0 _ _).trans (feq P5).1) k) ?_
  refine Go.via (S' := T1.setTop (mkF m 7 #[.val (.ref a1)] [(.ref a1)])) (fun _ k => XS.aloadN X1.here hx rfl (hb hby d19_6) rfl rfl k) ?_
  obtain ⟨T2, X2, e2, st2⟩ := getF X1 hx hZ hown (host := "") (Or.inl (hw _ (List.mem_of_getElem? (i := 34) rfl))) Via.refl e1 F2 (g := (mkF m 7 #[.val (.ref a1)] [(.ref a1)])) rfl rfl (hb hby d19_7)
  refine Go.via (S' := T2.setTop (mkF m 10 #[.val (.ref a1)] [(.int (0 : Int32))])) (fun _ k => st2 _ k) ?_
  refine Go.via (S' := T2.setTop (mkF m 13 #[.val (.ref a1)] [])) (fun _ k => XS.ifNo X2.here hx rfl (hb hby d19_10) rfl ((if0 _ _).trans (teq (by decide)).2) k) ?_
  refine Go.via (S' := T2.setTop (mkF m 14 #[.val (.ref a1)] [(.int (1 : Int32))])) (fun _ k => XS.iconst X2.here hx rfl (hb hby d19_13) k) ?_
  refine Go.via (S' := T2.setTop (mkF m 18 #[.val (.ref a1)] [(.int (1 : Int32))])) (fun _ k => XS.goto X2.here hx rfl (pc0 := 14) (pc' := 18) rfl (hb hby d19_14) (by decide) (by decide) k) ?_
  exact Go.retB X2 hx (BodyLoose.notSynchronized Bd) Bd.returns (hb hby d19_18) rfl (by rw [e2]; exact ⟨rfl, N0, rfl⟩) (by decide) (by decide)
theorem d21_0 : decode jdk_42_method_152_code 0 = .ok (.getstatic 38, 3) := by decide +kernel
theorem d21_3 : decode jdk_42_method_152_code 3 = .ok (.ifCond .eq 10, 3) := by decide +kernel
theorem d21_6 : decode jdk_42_method_152_code 6 = .ok (.aload_n 0, 1) := by decide +kernel
theorem d21_7 : decode jdk_42_method_152_code 7 = .ok (.getfield 15, 3) := by decide +kernel
theorem d21_10 : decode jdk_42_method_152_code 10 = .ok (.goto 4, 3) := by decide +kernel
theorem d21_14 : decode jdk_42_method_152_code 14 = .ok (.ireturn, 1) := by decide +kernel
theorem ef_21 (m : MethodId) (x0 : Addr) : entryFrame m #[(.ref x0)] 1 = mkF m 0 #[.val (.ref x0)] [] := by first | (simp [entryFrame, mkF, argsToLocals, Value.category]; done) | rfl
def Q21 (Z : State) (a1 : Addr) (G1 : Int32) (h0 : Heap) (n0 : Nat) (v : Option Value) (h : Heap) (L : List Loc) : Prop := v = some (.int (0 : Int32)) ∧ Fr n0 L ∧ h = h0
set_option maxRecDepth 65536 in
set_option maxHeartbeats 40000000 in
theorem rm21 (l : Launch) (Z : State) (a0 : Array Value) (hw : ∀ d ∈ tables_1, d.before a0 Z = true) (ws : List Jvm.Cond) (a1 : Addr) (G1 : Int32) (h0 : Heap) (n0 : Nat) (Z0 : n0 ≤ h0.size) (X00 : Old Z n0 h0) (O2 : Sta Z Z.heap "java/lang/String" "COMPACT_STRINGS" "Z" (.int G1)) (P5 : ¬ G1 = (0 : Int32)) (F2 : Fld Z h0 a1 "java/lang/String" "coder" "B" (.int (0 : Int32))) :
    MetFree l (⟨"java/lang/String", "coder", "()B"⟩ : MethodName) (head1 (Jvm.Cond.code (⟨"java/lang/String", "coder", "()B"⟩ : MethodName) jdk_42_method_152_code 1 (some .byte) :: ws) ({ frames := 0, cells := 0, slots := 0, locals := 0 } : Room)) (fun a U => a = #[(.ref a1)] ∧ Z.Warmed39 U.vm ∧ U.heap = h0) (fun _ _ _ _ _ => True) (fun _ U o U' => ∃ v L, o = .returned v ∧ Q21 Z a1 G1 h0 n0 v U'.heap L ∧ FrameEnd U o U' L ({ frames := 0, cells := 0, slots := 0, locals := 0 } : Room).cells ({ frames := 0, cells := 0, slots := 0, locals := 0 } : Room).slots) := by
  refine MetFree.of_bodySF (plainFor_of_name pn_2) hisR ?_
  intro p e s m args below meth c s₁ Bd hml0 hP hK
  obtain ⟨rfl, hZ, hh⟩ := hP
  have hx := Bd.exec
  have hby := Bd.bytes
  have hml : c.maxLocals = 1 := hml0
  have hown : s.vm.findClass "java/lang/String" = some m.cls := findClass_of_methodNamed Bd.named
  have hnm := (name_of_methodNamed Bd.named Bd.method).1
  have X0 : Stand p l e ({ frames := 0, cells := 0, slots := 0, locals := 0 } : Room) s m #[(.ref a1)] below meth c s₁ [] 0 0 := Stand.of_body Bd
  have e0 : s₁.heap = h0 := by rw [← hh, Bd.state]; rfl
  have N0 := Fr.nil n0
  show Go p e below s (Q21 Z a1 G1 h0 n0) ({ frames := 0, cells := 0, slots := 0, locals := 0 } : Room).cells ({ frames := 0, cells := 0, slots := 0, locals := 0 } : Room).slots _
  refine Go.via (S' := s₁.setTop (mkF m 0 #[.val (.ref a1)] [])) (fun t k => castTop (ef_21 m a1) k) ?_
  have Sg := O2.ext X00.2
  obtain ⟨T1, X1, e1, st1⟩ := getS2 X0 hx hZ hown (host := "") (Or.inl (hw _ (List.mem_of_getElem? (i := 22) rfl))) Via.refl e0 Sg (g := (mkF m 0 #[.val (.ref a1)] [])) rfl (hb hby d21_0)
  refine Go.via (S' := T1.setTop (mkF m 3 #[.val (.ref a1)] [(.int G1)])) (fun _ k => st1 _ k) ?_
  refine Go.via (S' := T1.setTop (mkF m 6 #[.val (.ref a1)] [])) (fun _ k => XS.ifNo X1.here hx rfl (hb hby d21_3) rfl ((if0 _ _).trans (feq P5).1) k) ?_
  refine Go.via (S' := T1.setTop (mkF m 7 #[.val (.ref a1)] [(.ref a1)])) (fun _ k => XS.aloadN X1.here hx rfl (hb hby d21_6) rfl rfl k) ?_
  obtain ⟨T2, X2, e2, st2⟩ := getF X1 hx hZ hown (host := "") (Or.inl (hw _ (List.mem_of_getElem? (i := 34) rfl))) Via.refl e1 F2 (g := (mkF m 7 #[.val (.ref a1)] [(.ref a1)])) rfl rfl (hb hby d21_7)
  refine Go.via (S' := T2.setTop (mkF m 10 #[.val (.ref a1)] [(.int (0 : Int32))])) (fun _ k => st2 _ k) ?_
  refine Go.via (S' := T2.setTop (mkF m 14 #[.val (.ref a1)] [(.int (0 : Int32))])) (fun _ k => XS.goto X2.here hx rfl (pc0 := 10) (pc' := 14) rfl (hb hby d21_10) (by decide) (by decide) k) ?_
  exact Go.retY X2 hx (BodyLoose.notSynchronized Bd) Bd.returns (hb hby d21_14) rfl (by rw [e2]; exact ⟨rfl, N0, rfl⟩) (by decide) (by decide)
theorem own_shr0 (z : Int32) : z >>> ((0 : Int32) &&& 31) = z := by
  apply Int32.toBitVec_inj.mp
  simp
theorem d20_0 : decode jdk_42_method_54_code 0 = .ok (.aload_n 0, 1) := by decide +kernel
theorem d20_1 : decode jdk_42_method_54_code 1 = .ok (.getfield 9, 3) := by decide +kernel
theorem d20_4 : decode jdk_42_method_54_code 4 = .ok (.arraylength, 1) := by decide +kernel
theorem d20_5 : decode jdk_42_method_54_code 5 = .ok (.aload_n 0, 1) := by decide +kernel
theorem d20_6 : decode jdk_42_method_54_code 6 = .ok (.invokevirtual 335, 3) := by decide +kernel
theorem pd_5 : parseMethodDescriptor "()B" = some ⟨[], some .byte⟩ := by decide +kernel
theorem d20_9 : decode jdk_42_method_54_code 9 = .ok (.ishr, 1) := by decide +kernel
theorem d20_10 : decode jdk_42_method_54_code 10 = .ok (.ireturn, 1) := by decide +kernel
theorem ef_20 (m : MethodId) (x0 : Addr) : entryFrame m #[(.ref x0)] 1 = mkF m 0 #[.val (.ref x0)] [] := by first | (simp [entryFrame, mkF, argsToLocals, Value.category]; done) | rfl
def Q20 (Z : State) (a1 : Addr) (G1 : Int32) (t : Addr) (kb : ClassId) (z : Int32) (vs : List Value) (h0 : Heap) (n0 : Nat) (v : Option Value) (h : Heap) (L : List Loc) : Prop := v = some (.int z) ∧ Fr n0 L ∧ h = h0
set_option maxRecDepth 65536 in
set_option maxHeartbeats 40000000 in
theorem rm20 (l : Launch) (Z : State) (a0 : Array Value) (hw : ∀ d ∈ tables_1, d.before a0 Z = true) (ws : List Jvm.Cond) (a1 : Addr) (G1 : Int32) (t : Addr) (kb : ClassId) (z : Int32) (vs : List Value) (h0 : Heap) (n0 : Nat) (Z0 : n0 ≤ h0.size) (X00 : Old Z n0 h0) (O2 : Sta Z Z.heap "java/lang/String" "COMPACT_STRINGS" "Z" (.int G1)) (P5 : ¬ G1 = (0 : Int32)) (E1 : Exa Z h0 a1 "java/lang/String") (F1 : Fld Z h0 a1 "java/lang/String" "value" "[B" (.ref t)) (F2 : Fld Z h0 a1 "java/lang/String" "coder" "B" (.int (0 : Int32))) (V1 : Arv Z h0 t kb .byte z vs (.int 0)) :
    MetFree l (⟨"java/lang/String", "length", "()I"⟩ : MethodName) (head1 (Jvm.Cond.code (⟨"java/lang/String", "length", "()I"⟩ : MethodName) jdk_42_method_54_code 1 (some .int) :: ws) ({ frames := 1, cells := 0, slots := 0, locals := 13 } : Room)) (fun a U => a = #[(.ref a1)] ∧ Z.Warmed39 U.vm ∧ U.heap = h0) (fun _ _ _ _ _ => True) (fun _ U o U' => ∃ v L, o = .returned v ∧ Q20 Z a1 G1 t kb z vs h0 n0 v U'.heap L ∧ FrameEnd U o U' L ({ frames := 1, cells := 0, slots := 0, locals := 13 } : Room).cells ({ frames := 1, cells := 0, slots := 0, locals := 13 } : Room).slots) := by
  refine MetFree.of_bodySF (plainFor_of_name pn_2) hisR ?_
  intro p e s m args below meth c s₁ Bd hml0 hP hK
  obtain ⟨rfl, hZ, hh⟩ := hP
  have hx := Bd.exec
  have hby := Bd.bytes
  have hml : c.maxLocals = 1 := hml0
  have hown : s.vm.findClass "java/lang/String" = some m.cls := findClass_of_methodNamed Bd.named
  have hnm := (name_of_methodNamed Bd.named Bd.method).1
  have X0 : Stand p l e ({ frames := 1, cells := 0, slots := 0, locals := 13 } : Room) s m #[(.ref a1)] below meth c s₁ [] 0 0 := Stand.of_body Bd
  have e0 : s₁.heap = h0 := by rw [← hh, Bd.state]; rfl
  have N0 := Fr.nil n0
  show Go p e below s (Q20 Z a1 G1 t kb z vs h0 n0) ({ frames := 1, cells := 0, slots := 0, locals := 13 } : Room).cells ({ frames := 1, cells := 0, slots := 0, locals := 13 } : Room).slots _
  refine Go.via (S' := s₁.setTop (mkF m 0 #[.val (.ref a1)] [])) (fun t k => castTop (ef_20 m a1) k) ?_
  refine Go.via (S' := s₁.setTop (mkF m 1 #[.val (.ref a1)] [(.ref a1)])) (fun _ k => XS.aloadN X0.here hx rfl (hb hby d20_0) rfl rfl k) ?_
  obtain ⟨T1, X1, e1, st1⟩ := getF X0 hx hZ hown (host := "") (Or.inl (hw _ (List.mem_of_getElem? (i := 36) rfl))) Via.refl e0 F1 (g := (mkF m 1 #[.val (.ref a1)] [(.ref a1)])) rfl rfl (hb hby d20_1)
  refine Go.via (S' := T1.setTop (mkF m 4 #[.val (.ref a1)] [(.ref t)])) (fun _ k => st1 _ k) ?_
  obtain ⟨c2, Ar2, -, S2, M2, -, -⟩ := id V1
  refine Go.via (S' := T1.setTop (mkF m 5 #[.val (.ref a1)] [(.int c2.slots.size.toInt32)])) (fun _ k => X1.arraylength hx (by rw [e1]; exact Ar2.1) (State.isArrayOf_alike hZ.alike Ar2.2.1) (g := (mkF m 4 #[.val (.ref a1)] [(.ref t)])) rfl rfl (hb hby d20_4) _ k) ?_
  rw [len_of S2 M2]
  refine Go.via (S' := T1.setTop (mkF m 6 #[.val (.ref a1)] [(.ref a1), (.int z)])) (fun _ k => XS.aloadN X1.here hx rfl (hb hby d20_5) rfl rfl k) ?_
  obtain ⟨cq3, kq3, q3a, q3b, q3c⟩ := isOf hZ e1 E1
  obtain ⟨_, _, ⟨T3, L3, k3, n3⟩, -, X3, ⟨Lc3, hQ3, l3, y3, z3⟩, st3⟩ := X1.virtualBack hx (y := (⟨"java/lang/String", "coder", "()B"⟩ : MethodName)) (z := (⟨"java/lang/String", "coder", "()B"⟩ : MethodName)) hown (mvT hZ (hw _ (List.mem_of_getElem? (i := 99) rfl))) (mvT hZ (hw _ (List.mem_of_getElem? (i := 100) rfl))) (notFace_of_selects (args := #[]) (mvT hZ (hw _ (List.mem_of_getElem? (i := 102) rfl)))) (mvT hZ (hw _ (List.mem_of_getElem? (i := 102) rfl))) (mvT hZ (hw _ (List.mem_of_getElem? (i := 101) rfl))) (by decide) (backOf (W := 1) (rm21 l Z a0 hw [] a1 G1 h0 n0 Z0 X00 O2 P5 F2) hZ (hw _ (List.mem_of_getElem? (i := 103) rfl)) (hw _ (List.mem_of_getElem? (i := 10) rfl)) (by decide) (by decide)) q3a q3c (g := (mkF m 6 #[.val (.ref a1)] [(.ref a1), (.int z)])) rfl (by rw [hml]; rfl) (Steps.refl _) (argsL := []) (rest := [(.int z)]) (lenOf pd_5 rfl) rfl (by show 2 * 0 + _ ≤ _; exact Nat.le_of_eq rfl) (hb hby d20_6) (fun _ _ => ⟨rfl, e1, (by decide : 0 + 0 ≤ _), (by decide : 0 + 0 ≤ _)⟩)
  dsimp only [Pt.U, Pt.locs, Pt.cells, Pt.slots] at X3 l3 y3 z3 st3 hQ3
  subst l3 y3 z3
  obtain ⟨rfl, N3q, e3⟩ := hQ3
  have N4 := Fr.app N0 N3q
  refine Go.via (S' := T3.setTop (mkF m 9 #[.val (.ref a1)] [(.int (0 : Int32)), (.int z)])) (fun _ k => st3.trans k) ?_
  refine Go.via (S' := T3.setTop (mkF m 10 #[.val (.ref a1)] [(.int (z >>> ((0 : Int32) &&& 31)))])) (fun _ k => XS.ishr X3.here hx rfl (hb hby d20_9) rfl k) ?_
  exact Go.retI X3 hx (BodyLoose.notSynchronized Bd) Bd.returns (hb hby d20_10) (by rw [e3]; exact ⟨congrArg (fun q => some (Value.int q)) (own_shr0 z), N4, rfl⟩) (by decide) (by decide)
theorem d23_0 : decode jdk_43_method_4_code 0 = .ok (.iload_n 0, 1) := by decide +kernel
theorem d23_1 : decode jdk_43_method_4_code 1 = .ok (.ifCond .lt 14, 3) := by decide +kernel
theorem d23_4 : decode jdk_43_method_4_code 4 = .ok (.iload_n 0, 1) := by decide +kernel
theorem d23_5 : decode jdk_43_method_4_code 5 = .ok (.sipush 255, 3) := by decide +kernel
theorem d23_8 : decode jdk_43_method_4_code 8 = .ok (.if_icmp .gt 7, 3) := by decide +kernel
theorem d23_11 : decode jdk_43_method_4_code 11 = .ok (.iconst 1, 1) := by decide +kernel
theorem d23_12 : decode jdk_43_method_4_code 12 = .ok (.goto 4, 3) := by decide +kernel
theorem d23_16 : decode jdk_43_method_4_code 16 = .ok (.ireturn, 1) := by decide +kernel
theorem ef_23 (m : MethodId) (x0 : Int32) : entryFrame m #[(.int x0)] 1 = mkF m 0 #[.val (.int x0)] [] := by first | (simp [entryFrame, mkF, argsToLocals, Value.category]; done) | rfl
def Q23 (Z : State) (p1 : Int32) (h0 : Heap) (n0 : Nat) (v : Option Value) (h : Heap) (L : List Loc) : Prop := v = some (.int 1) ∧ Fr n0 L ∧ h = h0
set_option maxRecDepth 65536 in
set_option maxHeartbeats 40000000 in
theorem rm23 (l : Launch) (Z : State) (a0 : Array Value) (hw : ∀ d ∈ tables_1, d.before a0 Z = true) (ws : List Jvm.Cond) (p1 : Int32) (h0 : Heap) (n0 : Nat) (Z0 : n0 ≤ h0.size) (hc : own_ch p1) :
    MetFree l (⟨"java/lang/StringLatin1", "canEncode", "(I)Z"⟩ : MethodName) (head1 (Jvm.Cond.code (⟨"java/lang/StringLatin1", "canEncode", "(I)Z"⟩ : MethodName) jdk_43_method_4_code 1 (some .boolean) :: ws) ({ frames := 0, cells := 0, slots := 0, locals := 0 } : Room)) (fun a U => a = #[(.int p1)] ∧ Z.Warmed39 U.vm ∧ U.heap = h0) (fun _ _ _ _ _ => True) (fun _ U o U' => ∃ v L, o = .returned v ∧ Q23 Z p1 h0 n0 v U'.heap L ∧ FrameEnd U o U' L ({ frames := 0, cells := 0, slots := 0, locals := 0 } : Room).cells ({ frames := 0, cells := 0, slots := 0, locals := 0 } : Room).slots) := by
  refine MetFree.of_bodySF (plainFor_of_name pn_1) hisR ?_
  intro p e s m args below meth c s₁ Bd hml0 hP hK
  obtain ⟨rfl, hZ, hh⟩ := hP
  have hx := Bd.exec
  have hby := Bd.bytes
  have hml : c.maxLocals = 1 := hml0
  have hown : s.vm.findClass "java/lang/StringLatin1" = some m.cls := findClass_of_methodNamed Bd.named
  have hnm := (name_of_methodNamed Bd.named Bd.method).1
  have X0 : Stand p l e ({ frames := 0, cells := 0, slots := 0, locals := 0 } : Room) s m #[(.int p1)] below meth c s₁ [] 0 0 := Stand.of_body Bd
  have e0 : s₁.heap = h0 := by rw [← hh, Bd.state]; rfl
  have N0 := Fr.nil n0
  show Go p e below s (Q23 Z p1 h0 n0) ({ frames := 0, cells := 0, slots := 0, locals := 0 } : Room).cells ({ frames := 0, cells := 0, slots := 0, locals := 0 } : Room).slots _
  refine Go.via (S' := s₁.setTop (mkF m 0 #[.val (.int p1)] [])) (fun t k => castTop (ef_23 m p1) k) ?_
  refine Go.via (S' := s₁.setTop (mkF m 1 #[.val (.int p1)] [(.int p1)])) (fun _ k => XS.iloadN X0.here hx rfl (hb hby d23_0) rfl k) ?_
  refine Go.via (S' := s₁.setTop (mkF m 4 #[.val (.int p1)] [])) (fun _ k => XS.ifNo X0.here hx rfl (hb hby d23_1) rfl ((if0 _ _).trans (flt hc.1).1) k) ?_
  refine Go.via (S' := s₁.setTop (mkF m 5 #[.val (.int p1)] [(.int p1)])) (fun _ k => XS.iloadN X0.here hx rfl (hb hby d23_4) rfl k) ?_
  refine Go.via (S' := s₁.setTop (mkF m 8 #[.val (.int p1)] [(.int (255 : Int32)), (.int p1)])) (fun _ k => XS.sipush X0.here hx rfl (hb hby d23_5) k) ?_
  refine Go.via (S' := s₁.setTop (mkF m 11 #[.val (.int p1)] [])) (fun _ k => XS.icmpNo X0.here hx rfl (hb hby d23_8) rfl (flt hc.2).2.2.1 k) ?_
  refine Go.via (S' := s₁.setTop (mkF m 12 #[.val (.int p1)] [(.int (1 : Int32))])) (fun _ k => XS.iconst X0.here hx rfl (hb hby d23_11) k) ?_
  refine Go.via (S' := s₁.setTop (mkF m 16 #[.val (.int p1)] [(.int (1 : Int32))])) (fun _ k => XS.goto X0.here hx rfl (pc0 := 12) (pc' := 16) rfl (hb hby d23_12) (by decide) (by decide) k) ?_
  exact Go.retB X0 hx (BodyLoose.notSynchronized Bd) Bd.returns (hb hby d23_16) rfl (by rw [e0]; exact ⟨rfl, N0, rfl⟩) (by decide) (by decide)
theorem d24_0 : decode jdk_29_method_65_code 0 = .ok (.iload_n 0, 1) := by decide +kernel
theorem d24_1 : decode jdk_29_method_65_code 1 = .ok (.iload_n 1, 1) := by decide +kernel
theorem d24_2 : decode jdk_29_method_65_code 2 = .ok (.if_icmp .lt 7, 3) := by decide +kernel
theorem d24_5 : decode jdk_29_method_65_code 5 = .ok (.iload_n 0, 1) := by decide +kernel
theorem d24_6 : decode jdk_29_method_65_code 6 = .ok (.goto 4, 3) := by decide +kernel
theorem d24_10 : decode jdk_29_method_65_code 10 = .ok (.ireturn, 1) := by decide +kernel
theorem ef_24 (m : MethodId) (x0 : Int32) (x1 : Int32) : entryFrame m #[(.int x0), (.int x1)] 2 = mkF m 0 #[.val (.int x0), .val (.int x1)] [] := by first | (simp [entryFrame, mkF, argsToLocals, Value.category]; done) | rfl
def Q24 (Z : State) (p1 : Int32) (p2 : Int32) (h0 : Heap) (n0 : Nat) (v : Option Value) (h : Heap) (L : List Loc) : Prop := v = some (.int p1) ∧ Fr n0 L ∧ h = h0
set_option maxRecDepth 65536 in
set_option maxHeartbeats 40000000 in
theorem rm24 (l : Launch) (Z : State) (a0 : Array Value) (hw : ∀ d ∈ tables_1, d.before a0 Z = true) (ws : List Jvm.Cond) (p1 : Int32) (p2 : Int32) (h0 : Heap) (n0 : Nat) (Z0 : n0 ≤ h0.size) (he : p1 = p2) :
    MetFree l (⟨"java/lang/Math", "max", "(II)I"⟩ : MethodName) (head1 (Jvm.Cond.code (⟨"java/lang/Math", "max", "(II)I"⟩ : MethodName) jdk_29_method_65_code 2 (some .int) :: ws) ({ frames := 0, cells := 0, slots := 0, locals := 0 } : Room)) (fun a U => a = #[(.int p1), (.int p2)] ∧ Z.Warmed39 U.vm ∧ U.heap = h0) (fun _ _ _ _ _ => True) (fun _ U o U' => ∃ v L, o = .returned v ∧ Q24 Z p1 p2 h0 n0 v U'.heap L ∧ FrameEnd U o U' L ({ frames := 0, cells := 0, slots := 0, locals := 0 } : Room).cells ({ frames := 0, cells := 0, slots := 0, locals := 0 } : Room).slots) := by
  refine MetFree.of_bodySF (Jvm.Free.JP.mathPlain rfl (by decide +kernel)) hisR ?_
  intro p e s m args below meth c s₁ Bd hml0 hP hK
  obtain ⟨rfl, hZ, hh⟩ := hP
  have hx := Bd.exec
  have hby := Bd.bytes
  have hml : c.maxLocals = 2 := hml0
  have hown : s.vm.findClass "java/lang/Math" = some m.cls := findClass_of_methodNamed Bd.named
  have hnm := (name_of_methodNamed Bd.named Bd.method).1
  have X0 : Stand p l e ({ frames := 0, cells := 0, slots := 0, locals := 0 } : Room) s m #[(.int p1), (.int p2)] below meth c s₁ [] 0 0 := Stand.of_body Bd
  have e0 : s₁.heap = h0 := by rw [← hh, Bd.state]; rfl
  have N0 := Fr.nil n0
  show Go p e below s (Q24 Z p1 p2 h0 n0) ({ frames := 0, cells := 0, slots := 0, locals := 0 } : Room).cells ({ frames := 0, cells := 0, slots := 0, locals := 0 } : Room).slots _
  refine Go.via (S' := s₁.setTop (mkF m 0 #[.val (.int p1), .val (.int p2)] [])) (fun t k => castTop (ef_24 m p1 p2) k) ?_
  refine Go.via (S' := s₁.setTop (mkF m 1 #[.val (.int p1), .val (.int p2)] [(.int p1)])) (fun _ k => XS.iloadN X0.here hx rfl (hb hby d24_0) rfl k) ?_
  refine Go.via (S' := s₁.setTop (mkF m 2 #[.val (.int p1), .val (.int p2)] [(.int p2), (.int p1)])) (fun _ k => XS.iloadN X0.here hx rfl (hb hby d24_1) rfl k) ?_
  refine Go.via (S' := s₁.setTop (mkF m 5 #[.val (.int p1), .val (.int p2)] [])) (fun _ k => XS.icmpNo X0.here hx rfl (hb hby d24_2) rfl (flt (by rw [he]; exact Int32.lt_irrefl)).1 k) ?_
  refine Go.via (S' := s₁.setTop (mkF m 6 #[.val (.int p1), .val (.int p2)] [(.int p1)])) (fun _ k => XS.iloadN X0.here hx rfl (hb hby d24_5) rfl k) ?_
  refine Go.via (S' := s₁.setTop (mkF m 10 #[.val (.int p1), .val (.int p2)] [(.int p1)])) (fun _ k => XS.goto X0.here hx rfl (pc0 := 6) (pc' := 10) rfl (hb hby d24_6) (by decide) (by decide) k) ?_
  exact Go.retI X0 hx (BodyLoose.notSynchronized Bd) Bd.returns (hb hby d24_10) (by rw [e0]; exact ⟨rfl, N0, rfl⟩) (by decide) (by decide)
theorem d25_0 : decode jdk_29_method_69_code 0 = .ok (.iload_n 0, 1) := by decide +kernel
theorem d25_1 : decode jdk_29_method_69_code 1 = .ok (.iload_n 1, 1) := by decide +kernel
theorem d25_2 : decode jdk_29_method_69_code 2 = .ok (.if_icmp .gt 7, 3) := by decide +kernel
theorem d25_5 : decode jdk_29_method_69_code 5 = .ok (.iload_n 0, 1) := by decide +kernel
theorem d25_6 : decode jdk_29_method_69_code 6 = .ok (.goto 4, 3) := by decide +kernel
theorem d25_10 : decode jdk_29_method_69_code 10 = .ok (.ireturn, 1) := by decide +kernel
theorem ef_25 (m : MethodId) (x0 : Int32) (x1 : Int32) : entryFrame m #[(.int x0), (.int x1)] 2 = mkF m 0 #[.val (.int x0), .val (.int x1)] [] := by first | (simp [entryFrame, mkF, argsToLocals, Value.category]; done) | rfl
def Q25 (Z : State) (p1 : Int32) (p2 : Int32) (h0 : Heap) (n0 : Nat) (v : Option Value) (h : Heap) (L : List Loc) : Prop := v = some (.int p1) ∧ Fr n0 L ∧ h = h0
set_option maxRecDepth 65536 in
set_option maxHeartbeats 40000000 in
theorem rm25 (l : Launch) (Z : State) (a0 : Array Value) (hw : ∀ d ∈ tables_1, d.before a0 Z = true) (ws : List Jvm.Cond) (p1 : Int32) (p2 : Int32) (h0 : Heap) (n0 : Nat) (Z0 : n0 ≤ h0.size) (he : p1 = p2) :
    MetFree l (⟨"java/lang/Math", "min", "(II)I"⟩ : MethodName) (head1 (Jvm.Cond.code (⟨"java/lang/Math", "min", "(II)I"⟩ : MethodName) jdk_29_method_69_code 2 (some .int) :: ws) ({ frames := 0, cells := 0, slots := 0, locals := 0 } : Room)) (fun a U => a = #[(.int p1), (.int p2)] ∧ Z.Warmed39 U.vm ∧ U.heap = h0) (fun _ _ _ _ _ => True) (fun _ U o U' => ∃ v L, o = .returned v ∧ Q25 Z p1 p2 h0 n0 v U'.heap L ∧ FrameEnd U o U' L ({ frames := 0, cells := 0, slots := 0, locals := 0 } : Room).cells ({ frames := 0, cells := 0, slots := 0, locals := 0 } : Room).slots) := by
  refine MetFree.of_bodySF (Jvm.Free.JP.mathPlain rfl (by decide +kernel)) hisR ?_
  intro p e s m args below meth c s₁ Bd hml0 hP hK
  obtain ⟨rfl, hZ, hh⟩ := hP
  have hx := Bd.exec
  have hby := Bd.bytes
  have hml : c.maxLocals = 2 := hml0
  have hown : s.vm.findClass "java/lang/Math" = some m.cls := findClass_of_methodNamed Bd.named
  have hnm := (name_of_methodNamed Bd.named Bd.method).1
  have X0 : Stand p l e ({ frames := 0, cells := 0, slots := 0, locals := 0 } : Room) s m #[(.int p1), (.int p2)] below meth c s₁ [] 0 0 := Stand.of_body Bd
  have e0 : s₁.heap = h0 := by rw [← hh, Bd.state]; rfl
  have N0 := Fr.nil n0
  show Go p e below s (Q25 Z p1 p2 h0 n0) ({ frames := 0, cells := 0, slots := 0, locals := 0 } : Room).cells ({ frames := 0, cells := 0, slots := 0, locals := 0 } : Room).slots _
  refine Go.via (S' := s₁.setTop (mkF m 0 #[.val (.int p1), .val (.int p2)] [])) (fun t k => castTop (ef_25 m p1 p2) k) ?_
  refine Go.via (S' := s₁.setTop (mkF m 1 #[.val (.int p1), .val (.int p2)] [(.int p1)])) (fun _ k => XS.iloadN X0.here hx rfl (hb hby d25_0) rfl k) ?_
  refine Go.via (S' := s₁.setTop (mkF m 2 #[.val (.int p1), .val (.int p2)] [(.int p2), (.int p1)])) (fun _ k => XS.iloadN X0.here hx rfl (hb hby d25_1) rfl k) ?_
  refine Go.via (S' := s₁.setTop (mkF m 5 #[.val (.int p1), .val (.int p2)] [])) (fun _ k => XS.icmpNo X0.here hx rfl (hb hby d25_2) rfl (flt (by rw [he]; exact Int32.lt_irrefl)).2.2.1 k) ?_
  refine Go.via (S' := s₁.setTop (mkF m 6 #[.val (.int p1), .val (.int p2)] [(.int p1)])) (fun _ k => XS.iloadN X0.here hx rfl (hb hby d25_5) rfl k) ?_
  refine Go.via (S' := s₁.setTop (mkF m 10 #[.val (.int p1), .val (.int p2)] [(.int p1)])) (fun _ k => XS.goto X0.here hx rfl (pc0 := 6) (pc' := 10) rfl (hb hby d25_6) (by decide) (by decide) k) ?_
  exact Go.retI X0 hx (BodyLoose.notSynchronized Bd) Bd.returns (hb hby d25_10) (by rw [e0]; exact ⟨rfl, N0, rfl⟩) (by decide) (by decide)
theorem d26_0 : decode jdk_43_method_23_code 0 = .ok (.iload_n 1, 1) := by decide +kernel
theorem d26_1 : decode jdk_43_method_23_code 1 = .ok (.i2b, 1) := by decide +kernel
theorem d26_2 : decode jdk_43_method_23_code 2 = .ok (.istore 4, 2) := by decide +kernel
theorem d26_4 : decode jdk_43_method_23_code 4 = .ok (.iload_n 2, 1) := by decide +kernel
theorem d26_5 : decode jdk_43_method_23_code 5 = .ok (.istore 5, 2) := by decide +kernel
theorem d26_7 : decode jdk_43_method_23_code 7 = .ok (.iload 5, 2) := by decide +kernel
theorem d26_9 : decode jdk_43_method_23_code 9 = .ok (.iload_n 3, 1) := by decide +kernel
theorem d26_10 : decode jdk_43_method_23_code 10 = .ok (.if_icmp .ge 21, 3) := by decide +kernel
theorem d26_31 : decode jdk_43_method_23_code 31 = .ok (.iconst (-1), 1) := by decide +kernel
theorem d26_32 : decode jdk_43_method_23_code 32 = .ok (.ireturn, 1) := by decide +kernel
theorem d26_13 : decode jdk_43_method_23_code 13 = .ok (.aload_n 0, 1) := by decide +kernel
theorem d26_14 : decode jdk_43_method_23_code 14 = .ok (.iload 5, 2) := by decide +kernel
theorem d26_16 : decode jdk_43_method_23_code 16 = .ok (.baload, 1) := by decide +kernel
theorem d26_17 : decode jdk_43_method_23_code 17 = .ok (.iload 4, 2) := by decide +kernel
theorem d26_19 : decode jdk_43_method_23_code 19 = .ok (.if_icmp .ne 6, 3) := by decide +kernel
theorem d26_22 : decode jdk_43_method_23_code 22 = .ok (.iload 5, 2) := by decide +kernel
theorem d26_24 : decode jdk_43_method_23_code 24 = .ok (.ireturn, 1) := by decide +kernel
theorem d26_25 : decode jdk_43_method_23_code 25 = .ok (.iinc 5 1, 3) := by decide +kernel
theorem d26_28 : decode jdk_43_method_23_code 28 = .ok (.goto (-21), 3) := by decide +kernel
theorem ef_26 (m : MethodId) (x0 : Addr) (x1 : Int32) (x2 : Int32) (x3 : Int32) : entryFrame m #[(.ref x0), (.int x1), (.int x2), (.int x3)] 6 = mkF m 0 #[.val (.ref x0), .val (.int x1), .val (.int x2), .val (.int x3), .unset, .unset] [] := by first | (simp [entryFrame, mkF, argsToLocals, Value.category]; done) | rfl
def Q26 (Z : State) (a1 : Addr) (p2 : Int32) (p3 : Int32) (p4 : Int32) (kb : ClassId) (cs : List Int32) (h0 : Heap) (n0 : Nat) (v : Option Value) (h : Heap) (L : List Loc) : Prop := ∃ r : Int32, v = some (.int r) ∧ Fr n0 L ∧ h = h0 ∧ ((r < 0 ∧ ¬ 46 ∈ cs) ∨ (¬ r < 0 ∧ 46 ∈ cs))
set_option maxRecDepth 65536 in
set_option maxHeartbeats 40000000 in
theorem rm26 (l : Launch) (Z : State) (a0 : Array Value) (hw : ∀ d ∈ tables_1, d.before a0 Z = true) (ws : List Jvm.Cond) (a1 : Addr) (p2 : Int32) (p3 : Int32) (p4 : Int32) (kb : ClassId) (cs : List Int32) (h0 : Heap) (n0 : Nat) (Z0 : n0 ≤ h0.size) (V1 : Arv Z h0 a1 kb .byte (Int32.ofNat cs.length) ((cs.map (fun c => c.toInt8.toInt32)).map Value.int) (.int 0)) (hcs : ∀ c ∈ cs, own_ch c) (hln : cs.length ≤ 4) (hp2 : p2 = (46 : Int32)) (hp3 : p3 = (0 : Int32)) (hp4 : p4 = Int32.ofNat cs.length) :
    MetFree l (⟨"java/lang/StringLatin1", "indexOfChar", "([BIII)I"⟩ : MethodName) (head1 (Jvm.Cond.code (⟨"java/lang/StringLatin1", "indexOfChar", "([BIII)I"⟩ : MethodName) jdk_43_method_23_code 6 (some .int) :: ws) ({ frames := 0, cells := 0, slots := 0, locals := 0 } : Room)) (fun a U => a = #[(.ref a1), (.int p2), (.int p3), (.int p4)] ∧ Z.Warmed39 U.vm ∧ U.heap = h0) (fun _ _ _ _ _ => True) (fun _ U o U' => ∃ v L, o = .returned v ∧ Q26 Z a1 p2 p3 p4 kb cs h0 n0 v U'.heap L ∧ FrameEnd U o U' L ({ frames := 0, cells := 0, slots := 0, locals := 0 } : Room).cells ({ frames := 0, cells := 0, slots := 0, locals := 0 } : Room).slots) := by
  refine MetFree.of_bodySF (plainFor_of_name pn_1) hisR ?_
  intro p e s m args below meth c s₁ Bd hml0 hP hK
  obtain ⟨rfl, hZ, hh⟩ := hP
  have hx := Bd.exec
  have hby := Bd.bytes
  have hml : c.maxLocals = 6 := hml0
  have hown : s.vm.findClass "java/lang/StringLatin1" = some m.cls := findClass_of_methodNamed Bd.named
  have hnm := (name_of_methodNamed Bd.named Bd.method).1
  have X0 : Stand p l e ({ frames := 0, cells := 0, slots := 0, locals := 0 } : Room) s m #[(.ref a1), (.int p2), (.int p3), (.int p4)] below meth c s₁ [] 0 0 := Stand.of_body Bd
  have e0 : s₁.heap = h0 := by rw [← hh, Bd.state]; rfl
  have N0 := Fr.nil n0
  show Go p e below s (Q26 Z a1 p2 p3 p4 kb cs h0 n0) ({ frames := 0, cells := 0, slots := 0, locals := 0 } : Room).cells ({ frames := 0, cells := 0, slots := 0, locals := 0 } : Room).slots _
  refine Go.via (S' := s₁.setTop (mkF m 0 #[.val (.ref a1), .val (.int p2), .val (.int p3), .val (.int p4), .unset, .unset] [])) (fun t k => castTop (ef_26 m a1 p2 p3 p4) k) ?_
  refine Go.via (S' := s₁.setTop (mkF m 1 #[.val (.ref a1), .val (.int p2), .val (.int p3), .val (.int p4), .unset, .unset] [(.int p2)])) (fun _ k => XS.iloadN X0.here hx rfl (hb hby d26_0) rfl k) ?_
  refine Go.via (S' := s₁.setTop (mkF m 2 #[.val (.ref a1), .val (.int p2), .val (.int p3), .val (.int p4), .unset, .unset] [(.int (p2.toInt8.toInt32))])) (fun _ k => XS.i2b X0.here hx rfl (hb hby d26_1) rfl k) ?_
  refine Go.via (S' := s₁.setTop (mkF m 4 #[.val (.ref a1), .val (.int p2), .val (.int p3), .val (.int p4), .val (.int (p2.toInt8.toInt32)), .unset] [])) (fun _ k => XS.istore X0.here hx rfl (hb hby d26_2) rfl (l' := #[.val (.ref a1), .val (.int p2), .val (.int p3), .val (.int p4), .val (.int (p2.toInt8.toInt32)), .unset]) rfl k) ?_
  refine Go.via (S' := s₁.setTop (mkF m 5 #[.val (.ref a1), .val (.int p2), .val (.int p3), .val (.int p4), .val (.int (p2.toInt8.toInt32)), .unset] [(.int p3)])) (fun _ k => XS.iloadN X0.here hx rfl (hb hby d26_4) rfl k) ?_
  refine Go.via (S' := s₁.setTop (mkF m 7 #[.val (.ref a1), .val (.int p2), .val (.int p3), .val (.int p4), .val (.int (p2.toInt8.toInt32)), .val (.int p3)] [])) (fun _ k => XS.istore X0.here hx rfl (hb hby d26_5) rfl (l' := #[.val (.ref a1), .val (.int p2), .val (.int p3), .val (.int p4), .val (.int (p2.toInt8.toInt32)), .val (.int p3)]) rfl k) ?_
  suffices LP : ∀ (k : Nat) (i : Int32) (j : Nat) (hi : i = Int32.ofNat j) (hjk : j + k = cs.length) (hno : ∀ q, q < j → cs.getD q 0 ≠ 46), Go p e below s (Q26 Z a1 p2 p3 p4 kb cs h0 n0) ({ frames := 0, cells := 0, slots := 0, locals := 0 } : Room).cells ({ frames := 0, cells := 0, slots := 0, locals := 0 } : Room).slots (s₁.setTop (mkF m 7 #[.val (.ref a1), .val (.int p2), .val (.int p3), .val (.int p4), .val (.int (p2.toInt8.toInt32)), .val (.int i)] [])) by
    exact LP cs.length p3 0 (by rw [hp3]; rfl) (by omega) (fun q hq => absurd hq (Nat.not_lt_zero q))
  intro k
  induction k with
  | zero =>
    intro i j hi hjk hno
    refine Go.via (S' := s₁.setTop (mkF m 9 #[.val (.ref a1), .val (.int p2), .val (.int p3), .val (.int p4), .val (.int (p2.toInt8.toInt32)), .val (.int i)] [(.int i)])) (fun _ k => XS.iload X0.here hx rfl (hb hby d26_7) rfl k) ?_
    refine Go.via (S' := s₁.setTop (mkF m 10 #[.val (.ref a1), .val (.int p2), .val (.int p3), .val (.int p4), .val (.int (p2.toInt8.toInt32)), .val (.int i)] [(.int p4), (.int i)])) (fun _ k => XS.iloadN X0.here hx rfl (hb hby d26_9) rfl k) ?_
    refine Go.via (S' := s₁.setTop (mkF m 31 #[.val (.ref a1), .val (.int p2), .val (.int p3), .val (.int p4), .val (.int (p2.toInt8.toInt32)), .val (.int i)] [])) (fun _ k => XS.icmpYes X0.here hx rfl (pc0 := 10) (pc' := 31) rfl (hb hby d26_10) rfl (flt (fun q => by rw [hi, hp4] at q; have := (own_lt (by omega) (by omega)).mp q; omega)).2.1 (by decide) (by decide) k) ?_
    refine Go.via (S' := s₁.setTop (mkF m 32 #[.val (.ref a1), .val (.int p2), .val (.int p3), .val (.int p4), .val (.int (p2.toInt8.toInt32)), .val (.int i)] [(.int (-1 : Int32))])) (fun _ k => XS.iconst X0.here hx rfl (hb hby d26_31) k) ?_
    exact Go.retI X0 hx (BodyLoose.notSynchronized Bd) Bd.returns (hb hby d26_32) (by rw [e0]; exact ⟨_, rfl, N0, rfl, Or.inl ⟨by decide, own_nomem (fun q hq => hno q (by omega))⟩⟩) (by decide) (by decide)
  | succ k ih =>
    intro i j hi hjk hno
    have hjl : j < cs.length := by omega
    refine Go.via (S' := s₁.setTop (mkF m 9 #[.val (.ref a1), .val (.int p2), .val (.int p3), .val (.int p4), .val (.int (p2.toInt8.toInt32)), .val (.int i)] [(.int i)])) (fun _ k => XS.iload X0.here hx rfl (hb hby d26_7) rfl k) ?_
    refine Go.via (S' := s₁.setTop (mkF m 10 #[.val (.ref a1), .val (.int p2), .val (.int p3), .val (.int p4), .val (.int (p2.toInt8.toInt32)), .val (.int i)] [(.int p4), (.int i)])) (fun _ k => XS.iloadN X0.here hx rfl (hb hby d26_9) rfl k) ?_
    refine Go.via (S' := s₁.setTop (mkF m 13 #[.val (.ref a1), .val (.int p2), .val (.int p3), .val (.int p4), .val (.int (p2.toInt8.toInt32)), .val (.int i)] [])) (fun _ k => XS.icmpNo X0.here hx rfl (hb hby d26_10) rfl (tlt (by rw [hi, hp4]; exact (own_lt (by omega) (by omega)).mpr hjl)).2.1 k) ?_
    refine Go.via (S' := s₁.setTop (mkF m 14 #[.val (.ref a1), .val (.int p2), .val (.int p3), .val (.int p4), .val (.int (p2.toInt8.toInt32)), .val (.int i)] [(.ref a1)])) (fun _ k => XS.aloadN X0.here hx rfl (hb hby d26_13) rfl rfl k) ?_
    refine Go.via (S' := s₁.setTop (mkF m 16 #[.val (.ref a1), .val (.int p2), .val (.int p3), .val (.int p4), .val (.int (p2.toInt8.toInt32)), .val (.int i)] [(.int i), (.ref a1)])) (fun _ k => XS.iload X0.here hx rfl (hb hby d26_14) rfl k) ?_
    obtain ⟨c1, Ar1, q1, S1, M1, H1, G1⟩ := id V1
    have hcl : i.toNatClampNeg = j := by rw [hi, Int32.toNatClampNeg, Int32.toInt_ofNat_small (by omega)]; rfl
    have in1 : ¬ (i < 0 ∨ c1.slots.size ≤ i.toNatClampNeg) := by
      rw [S1, hcl, Int32.toNatClampNeg, Int32.toInt_ofNat_small (by omega)]
      have e0 : (0 : Int32).toInt = 0 := rfl
      rw [Int32.lt_iff_toInt_lt, hi, Int32.toInt_ofNat_small (by omega), e0]
      simp
      omega
    have at1 := H1.at in1 (v := .int ((cs.getD j 0).toInt8.toInt32)) (by rw [hcl]; exact own_at hjl)
    refine Go.via (S' := s₁.setTop (mkF m 17 #[.val (.ref a1), .val (.int p2), .val (.int p3), .val (.int p4), .val (.int (p2.toInt8.toInt32)), .val (.int i)] [(.int ((cs.getD j 0).toInt8.toInt32))])) (fun _ k => X0.baloadBytes hx (j := i) (v := .int ((cs.getD j 0).toInt8.toInt32)) (by rw [e0]; exact Ar1.1) (State.isArrayOf_alike hZ.alike Ar1.2.1) Ar1.2.2 in1 at1 (g := (mkF m 16 #[.val (.ref a1), .val (.int p2), .val (.int p3), .val (.int p4), .val (.int (p2.toInt8.toInt32)), .val (.int i)] [(.int i), (.ref a1)])) rfl rfl (hb hby d26_16) _ k) ?_
    refine Go.via (S' := s₁.setTop (mkF m 19 #[.val (.ref a1), .val (.int p2), .val (.int p3), .val (.int p4), .val (.int (p2.toInt8.toInt32)), .val (.int i)] [(.int (p2.toInt8.toInt32)), (.int ((cs.getD j 0).toInt8.toInt32))])) (fun _ k => XS.iload X0.here hx rfl (hb hby d26_17) rfl k) ?_
    rcases Decidable.em (((cs.getD j 0).toInt8.toInt32) = (p2.toInt8.toInt32)) with hc19 | hc19
    · refine Go.via (S' := s₁.setTop (mkF m 22 #[.val (.ref a1), .val (.int p2), .val (.int p3), .val (.int p4), .val (.int (p2.toInt8.toInt32)), .val (.int i)] [])) (fun _ k => XS.icmpNo X0.here hx rfl (hb hby d26_19) rfl (teq hc19).2 k) ?_
      refine Go.via (S' := s₁.setTop (mkF m 24 #[.val (.ref a1), .val (.int p2), .val (.int p3), .val (.int p4), .val (.int (p2.toInt8.toInt32)), .val (.int i)] [(.int i)])) (fun _ k => XS.iload X0.here hx rfl (hb hby d26_22) rfl k) ?_
      exact Go.retI X0 hx (BodyLoose.notSynchronized Bd) Bd.returns (hb hby d26_24) (by rw [e0]; exact ⟨_, rfl, N0, rfl, Or.inr ⟨by rw [hi, Int32.lt_iff_toInt_lt, Int32.toInt_ofNat_small (by omega)]; have e0 : (0 : Int32).toInt = 0 := rfl; omega, own_mem hjl ((own_b46 (own_get hjl hcs)).mp (by rw [← hp2]; exact hc19))⟩⟩) (by decide) (by decide)
    · refine Go.via (S' := s₁.setTop (mkF m 25 #[.val (.ref a1), .val (.int p2), .val (.int p3), .val (.int p4), .val (.int (p2.toInt8.toInt32)), .val (.int i)] [])) (fun _ k => XS.icmpYes X0.here hx rfl (pc0 := 19) (pc' := 25) rfl (hb hby d26_19) rfl (feq hc19).2 (by decide) (by decide) k) ?_
      refine Go.via (S' := s₁.setTop (mkF m 28 #[.val (.ref a1), .val (.int p2), .val (.int p3), .val (.int p4), .val (.int (p2.toInt8.toInt32)), .val (.int (i + (1 : Int32)))] [])) (fun _ k => XS.iinc X0.here hx rfl (hb hby d26_25) rfl (l' := #[.val (.ref a1), .val (.int p2), .val (.int p3), .val (.int p4), .val (.int (p2.toInt8.toInt32)), .val (.int (i + (1 : Int32)))]) rfl k) ?_
      refine Go.via (S' := s₁.setTop (mkF m 7 #[.val (.ref a1), .val (.int p2), .val (.int p3), .val (.int p4), .val (.int (p2.toInt8.toInt32)), .val (.int (i + (1 : Int32)))] [])) (fun _ k => XS.goto X0.here hx rfl (pc0 := 28) (pc' := 7) rfl (hb hby d26_28) (by decide) (by decide) k) ?_
      exact ih (i + (1 : Int32)) (j + 1) (by rw [hi, own_succ]) (by omega) (fun q hq => if e : q = j then by rw [e]; exact fun z => hc19 (by rw [hp2]; exact (own_b46 (own_get hjl hcs)).mpr z) else hno q (by omega))
theorem d22_0 : decode jdk_43_method_22_code 0 = .ok (.iload_n 1, 1) := by decide +kernel
theorem d22_1 : decode jdk_43_method_22_code 1 = .ok (.invokestatic 88, 3) := by decide +kernel
theorem pd_6 : parseMethodDescriptor "(I)Z" = some ⟨[.int], some .boolean⟩ := by decide +kernel
theorem d22_4 : decode jdk_43_method_22_code 4 = .ok (.ifCond .ne 5, 3) := by decide +kernel
theorem d22_9 : decode jdk_43_method_22_code 9 = .ok (.iload_n 2, 1) := by decide +kernel
theorem d22_10 : decode jdk_43_method_22_code 10 = .ok (.iconst 0, 1) := by decide +kernel
theorem d22_11 : decode jdk_43_method_22_code 11 = .ok (.invokestatic 92, 3) := by decide +kernel
theorem pd_7 : parseMethodDescriptor "(II)I" = some ⟨[.int, .int], some .int⟩ := by decide +kernel
theorem d22_14 : decode jdk_43_method_22_code 14 = .ok (.istore_n 2, 1) := by decide +kernel
theorem d22_15 : decode jdk_43_method_22_code 15 = .ok (.iload_n 3, 1) := by decide +kernel
theorem d22_16 : decode jdk_43_method_22_code 16 = .ok (.aload_n 0, 1) := by decide +kernel
theorem d22_17 : decode jdk_43_method_22_code 17 = .ok (.arraylength, 1) := by decide +kernel
theorem d22_18 : decode jdk_43_method_22_code 18 = .ok (.invokestatic 38, 3) := by decide +kernel
theorem d22_21 : decode jdk_43_method_22_code 21 = .ok (.istore_n 3, 1) := by decide +kernel
theorem d22_22 : decode jdk_43_method_22_code 22 = .ok (.iload_n 2, 1) := by decide +kernel
theorem d22_23 : decode jdk_43_method_22_code 23 = .ok (.iload_n 3, 1) := by decide +kernel
theorem d22_24 : decode jdk_43_method_22_code 24 = .ok (.if_icmp .lt 5, 3) := by decide +kernel
theorem d22_29 : decode jdk_43_method_22_code 29 = .ok (.aload_n 0, 1) := by decide +kernel
theorem d22_30 : decode jdk_43_method_22_code 30 = .ok (.iload_n 1, 1) := by decide +kernel
theorem d22_31 : decode jdk_43_method_22_code 31 = .ok (.iload_n 2, 1) := by decide +kernel
theorem d22_32 : decode jdk_43_method_22_code 32 = .ok (.iload_n 3, 1) := by decide +kernel
theorem d22_33 : decode jdk_43_method_22_code 33 = .ok (.invokestatic 95, 3) := by decide +kernel
theorem pd_8 : parseMethodDescriptor "([BIII)I" = some ⟨[(.array .byte), .int, .int, .int], some .int⟩ := by decide +kernel
theorem d22_36 : decode jdk_43_method_22_code 36 = .ok (.ireturn, 1) := by decide +kernel
theorem d22_27 : decode jdk_43_method_22_code 27 = .ok (.iconst (-1), 1) := by decide +kernel
theorem d22_28 : decode jdk_43_method_22_code 28 = .ok (.ireturn, 1) := by decide +kernel
theorem ef_22 (m : MethodId) (x0 : Addr) (x1 : Int32) (x2 : Int32) (x3 : Int32) : entryFrame m #[(.ref x0), (.int x1), (.int x2), (.int x3)] 4 = mkF m 0 #[.val (.ref x0), .val (.int x1), .val (.int x2), .val (.int x3)] [] := by first | (simp [entryFrame, mkF, argsToLocals, Value.category]; done) | rfl
def Q22 (Z : State) (a1 : Addr) (p2 : Int32) (p3 : Int32) (p4 : Int32) (kb : ClassId) (cs : List Int32) (h0 : Heap) (n0 : Nat) (v : Option Value) (h : Heap) (L : List Loc) : Prop := ∃ r : Int32, v = some (.int r) ∧ Fr n0 L ∧ h = h0 ∧ ((r < 0 ∧ ¬ 46 ∈ cs) ∨ (¬ r < 0 ∧ 46 ∈ cs))
set_option maxRecDepth 65536 in
set_option maxHeartbeats 40000000 in
theorem rm22 (l : Launch) (Z : State) (a0 : Array Value) (hw : ∀ d ∈ tables_1, d.before a0 Z = true) (ws : List Jvm.Cond) (a1 : Addr) (p2 : Int32) (p3 : Int32) (p4 : Int32) (kb : ClassId) (cs : List Int32) (h0 : Heap) (n0 : Nat) (Z0 : n0 ≤ h0.size) (V1 : Arv Z h0 a1 kb .byte (Int32.ofNat cs.length) ((cs.map (fun c => c.toInt8.toInt32)).map Value.int) (.int 0)) (hcs : ∀ c ∈ cs, own_ch c) (hln : cs.length ≤ 4) (hp2 : p2 = (46 : Int32)) (hp3 : p3 = (0 : Int32)) (hp4 : p4 = Int32.ofNat cs.length) :
    MetFree l (⟨"java/lang/StringLatin1", "indexOf", "([BIII)I"⟩ : MethodName) (head1 (Jvm.Cond.code (⟨"java/lang/StringLatin1", "indexOf", "([BIII)I"⟩ : MethodName) jdk_43_method_22_code 4 (some .int) :: ws) ({ frames := 1, cells := 0, slots := 0, locals := 17 } : Room)) (fun a U => a = #[(.ref a1), (.int p2), (.int p3), (.int p4)] ∧ Z.Warmed39 U.vm ∧ U.heap = h0) (fun _ _ _ _ _ => True) (fun _ U o U' => ∃ v L, o = .returned v ∧ Q22 Z a1 p2 p3 p4 kb cs h0 n0 v U'.heap L ∧ FrameEnd U o U' L ({ frames := 1, cells := 0, slots := 0, locals := 17 } : Room).cells ({ frames := 1, cells := 0, slots := 0, locals := 17 } : Room).slots) := by
  refine MetFree.of_bodySF (plainFor_of_name pn_1) hisR ?_
  intro p e s m args below meth c s₁ Bd hml0 hP hK
  obtain ⟨rfl, hZ, hh⟩ := hP
  have hx := Bd.exec
  have hby := Bd.bytes
  have hml : c.maxLocals = 4 := hml0
  have hown : s.vm.findClass "java/lang/StringLatin1" = some m.cls := findClass_of_methodNamed Bd.named
  have hnm := (name_of_methodNamed Bd.named Bd.method).1
  have X0 : Stand p l e ({ frames := 1, cells := 0, slots := 0, locals := 17 } : Room) s m #[(.ref a1), (.int p2), (.int p3), (.int p4)] below meth c s₁ [] 0 0 := Stand.of_body Bd
  have e0 : s₁.heap = h0 := by rw [← hh, Bd.state]; rfl
  have N0 := Fr.nil n0
  show Go p e below s (Q22 Z a1 p2 p3 p4 kb cs h0 n0) ({ frames := 1, cells := 0, slots := 0, locals := 17 } : Room).cells ({ frames := 1, cells := 0, slots := 0, locals := 17 } : Room).slots _
  refine Go.via (S' := s₁.setTop (mkF m 0 #[.val (.ref a1), .val (.int p2), .val (.int p3), .val (.int p4)] [])) (fun t k => castTop (ef_22 m a1 p2 p3 p4) k) ?_
  refine Go.via (S' := s₁.setTop (mkF m 1 #[.val (.ref a1), .val (.int p2), .val (.int p3), .val (.int p4)] [(.int p2)])) (fun _ k => XS.iloadN X0.here hx rfl (hb hby d22_0) rfl k) ?_
  obtain ⟨_, _, ⟨T1, L1, k1, n1⟩, -, X1, ⟨Lc1, hQ1, l1, y1, z1⟩, st1⟩ := Jvm.LawKit.callS X0 hx (y := (⟨"java/lang/StringLatin1", "canEncode", "(I)Z"⟩ : MethodName)) hown (mvT hZ (hw _ (List.mem_of_getElem? (i := 107) rfl))) (mvT hZ (hw _ (List.mem_of_getElem? (i := 108) rfl))) (mvT hZ (hw _ (List.mem_of_getElem? (i := 43) rfl))) (mvT hZ (hw _ (List.mem_of_getElem? (i := 109) rfl))) (by decide) (backOf (W := 0) (rm23 l Z a0 hw [] p2 h0 n0 Z0 (by rw [hp2]; exact own_46)) hZ (hw _ (List.mem_of_getElem? (i := 109) rfl)) (hw _ (List.mem_of_getElem? (i := 43) rfl)) (by decide) (by decide)) (g := (mkF m 1 #[.val (.ref a1), .val (.int p2), .val (.int p3), .val (.int p4)] [(.int p2)])) rfl (by rw [hml]; rfl) (argsL := [(.int p2)]) (rest := []) (lenOf pd_6 rfl) rfl (by show 2 * 0 + _ ≤ _; exact Nat.le_of_eq rfl) (hb hby d22_1) (fun _ _ => ⟨rfl, e0, (by decide : 0 + 0 ≤ _), (by decide : 0 + 0 ≤ _)⟩)
  dsimp only [Pt.U, Pt.locs, Pt.cells, Pt.slots] at X1 l1 y1 z1 st1 hQ1
  subst l1 y1 z1
  obtain ⟨rfl, N1q, e1⟩ := hQ1
  have N2 := Fr.app N0 N1q
  refine Go.via (S' := T1.setTop (mkF m 4 #[.val (.ref a1), .val (.int p2), .val (.int p3), .val (.int p4)] [(.int (1 : Int32))])) (fun _ k => st1 _ k) ?_
  refine Go.via (S' := T1.setTop (mkF m 9 #[.val (.ref a1), .val (.int p2), .val (.int p3), .val (.int p4)] [])) (fun _ k => XS.ifYes X1.here hx rfl (pc0 := 4) (pc' := 9) rfl (hb hby d22_4) rfl ((if0 _ _).trans (feq (by decide)).2) (by decide) (by decide) k) ?_
  refine Go.via (S' := T1.setTop (mkF m 10 #[.val (.ref a1), .val (.int p2), .val (.int p3), .val (.int p4)] [(.int p3)])) (fun _ k => XS.iloadN X1.here hx rfl (hb hby d22_9) rfl k) ?_
  refine Go.via (S' := T1.setTop (mkF m 11 #[.val (.ref a1), .val (.int p2), .val (.int p3), .val (.int p4)] [(.int (0 : Int32)), (.int p3)])) (fun _ k => XS.iconst X1.here hx rfl (hb hby d22_10) k) ?_
  obtain ⟨_, _, ⟨T3, L3, k3, n3⟩, -, X3, ⟨Lc3, hQ3, l3, y3, z3⟩, st3⟩ := Jvm.LawKit.callS X1 hx (y := (⟨"java/lang/Math", "max", "(II)I"⟩ : MethodName)) hown (mvT hZ (hw _ (List.mem_of_getElem? (i := 110) rfl))) (mvT hZ (hw _ (List.mem_of_getElem? (i := 111) rfl))) (mvT hZ (hw _ (List.mem_of_getElem? (i := 112) rfl))) (mvT hZ (hw _ (List.mem_of_getElem? (i := 113) rfl))) (by decide) (backOf (W := 0) (rm24 l Z a0 hw [] p3 (0 : Int32) h0 n0 Z0 hp3) hZ (hw _ (List.mem_of_getElem? (i := 113) rfl)) (hw _ (List.mem_of_getElem? (i := 112) rfl)) (by decide) (by decide)) (g := (mkF m 11 #[.val (.ref a1), .val (.int p2), .val (.int p3), .val (.int p4)] [(.int (0 : Int32)), (.int p3)])) rfl (by rw [hml]; rfl) (argsL := [(.int p3), (.int (0 : Int32))]) (rest := []) (lenOf pd_7 rfl) rfl (by show 2 * 0 + _ ≤ _; exact Nat.le_of_eq rfl) (hb hby d22_11) (fun _ _ => ⟨rfl, e1, (by decide : 0 + 0 ≤ _), (by decide : 0 + 0 ≤ _)⟩)
  dsimp only [Pt.U, Pt.locs, Pt.cells, Pt.slots] at X3 l3 y3 z3 st3 hQ3
  subst l3 y3 z3
  obtain ⟨rfl, N3q, e3⟩ := hQ3
  have N4 := Fr.app N2 N3q
  refine Go.via (S' := T3.setTop (mkF m 14 #[.val (.ref a1), .val (.int p2), .val (.int p3), .val (.int p4)] [(.int p3)])) (fun _ k => st3 _ k) ?_
  refine Go.via (S' := T3.setTop (mkF m 15 #[.val (.ref a1), .val (.int p2), .val (.int p3), .val (.int p4)] [])) (fun _ k => XS.istoreN X3.here hx rfl (hb hby d22_14) rfl (l' := #[.val (.ref a1), .val (.int p2), .val (.int p3), .val (.int p4)]) rfl k) ?_
  refine Go.via (S' := T3.setTop (mkF m 16 #[.val (.ref a1), .val (.int p2), .val (.int p3), .val (.int p4)] [(.int p4)])) (fun _ k => XS.iloadN X3.here hx rfl (hb hby d22_15) rfl k) ?_
  refine Go.via (S' := T3.setTop (mkF m 17 #[.val (.ref a1), .val (.int p2), .val (.int p3), .val (.int p4)] [(.ref a1), (.int p4)])) (fun _ k => XS.aloadN X3.here hx rfl (hb hby d22_16) rfl rfl k) ?_
  obtain ⟨c5, Ar5, -, S5, M5, -, -⟩ := id V1
  refine Go.via (S' := T3.setTop (mkF m 18 #[.val (.ref a1), .val (.int p2), .val (.int p3), .val (.int p4)] [(.int c5.slots.size.toInt32), (.int p4)])) (fun _ k => X3.arraylength hx (by rw [e3]; exact Ar5.1) (State.isArrayOf_alike hZ.alike Ar5.2.1) (g := (mkF m 17 #[.val (.ref a1), .val (.int p2), .val (.int p3), .val (.int p4)] [(.ref a1), (.int p4)])) rfl rfl (hb hby d22_17) _ k) ?_
  rw [len_of S5 M5]
  obtain ⟨_, _, ⟨T6, L6, k6, n6⟩, -, X6, ⟨Lc6, hQ6, l6, y6, z6⟩, st6⟩ := Jvm.LawKit.callS X3 hx (y := (⟨"java/lang/Math", "min", "(II)I"⟩ : MethodName)) hown (mvT hZ (hw _ (List.mem_of_getElem? (i := 114) rfl))) (mvT hZ (hw _ (List.mem_of_getElem? (i := 115) rfl))) (mvT hZ (hw _ (List.mem_of_getElem? (i := 112) rfl))) (mvT hZ (hw _ (List.mem_of_getElem? (i := 116) rfl))) (by decide) (backOf (W := 0) (rm25 l Z a0 hw [] p4 (Int32.ofNat cs.length) h0 n0 Z0 hp4) hZ (hw _ (List.mem_of_getElem? (i := 116) rfl)) (hw _ (List.mem_of_getElem? (i := 112) rfl)) (by decide) (by decide)) (g := (mkF m 18 #[.val (.ref a1), .val (.int p2), .val (.int p3), .val (.int p4)] [(.int (Int32.ofNat cs.length)), (.int p4)])) rfl (by rw [hml]; rfl) (argsL := [(.int p4), (.int (Int32.ofNat cs.length))]) (rest := []) (lenOf pd_7 rfl) rfl (by show 2 * 0 + _ ≤ _; exact Nat.le_of_eq rfl) (hb hby d22_18) (fun _ _ => ⟨rfl, e3, (by decide : 0 + 0 ≤ _), (by decide : 0 + 0 ≤ _)⟩)
  dsimp only [Pt.U, Pt.locs, Pt.cells, Pt.slots] at X6 l6 y6 z6 st6 hQ6
  subst l6 y6 z6
  obtain ⟨rfl, N6q, e6⟩ := hQ6
  have N7 := Fr.app N4 N6q
  refine Go.via (S' := T6.setTop (mkF m 21 #[.val (.ref a1), .val (.int p2), .val (.int p3), .val (.int p4)] [(.int p4)])) (fun _ k => st6 _ k) ?_
  refine Go.via (S' := T6.setTop (mkF m 22 #[.val (.ref a1), .val (.int p2), .val (.int p3), .val (.int p4)] [])) (fun _ k => XS.istoreN X6.here hx rfl (hb hby d22_21) rfl (l' := #[.val (.ref a1), .val (.int p2), .val (.int p3), .val (.int p4)]) rfl k) ?_
  refine Go.via (S' := T6.setTop (mkF m 23 #[.val (.ref a1), .val (.int p2), .val (.int p3), .val (.int p4)] [(.int p3)])) (fun _ k => XS.iloadN X6.here hx rfl (hb hby d22_22) rfl k) ?_
  refine Go.via (S' := T6.setTop (mkF m 24 #[.val (.ref a1), .val (.int p2), .val (.int p3), .val (.int p4)] [(.int p4), (.int p3)])) (fun _ k => XS.iloadN X6.here hx rfl (hb hby d22_23) rfl k) ?_
  rcases Decidable.em (p3 < p4) with hc24 | hc24
  · refine Go.via (S' := T6.setTop (mkF m 29 #[.val (.ref a1), .val (.int p2), .val (.int p3), .val (.int p4)] [])) (fun _ k => XS.icmpYes X6.here hx rfl (pc0 := 24) (pc' := 29) rfl (hb hby d22_24) rfl (tlt hc24).1 (by decide) (by decide) k) ?_
    refine Go.via (S' := T6.setTop (mkF m 30 #[.val (.ref a1), .val (.int p2), .val (.int p3), .val (.int p4)] [(.ref a1)])) (fun _ k => XS.aloadN X6.here hx rfl (hb hby d22_29) rfl rfl k) ?_
    refine Go.via (S' := T6.setTop (mkF m 31 #[.val (.ref a1), .val (.int p2), .val (.int p3), .val (.int p4)] [(.int p2), (.ref a1)])) (fun _ k => XS.iloadN X6.here hx rfl (hb hby d22_30) rfl k) ?_
    refine Go.via (S' := T6.setTop (mkF m 32 #[.val (.ref a1), .val (.int p2), .val (.int p3), .val (.int p4)] [(.int p3), (.int p2), (.ref a1)])) (fun _ k => XS.iloadN X6.here hx rfl (hb hby d22_31) rfl k) ?_
    refine Go.via (S' := T6.setTop (mkF m 33 #[.val (.ref a1), .val (.int p2), .val (.int p3), .val (.int p4)] [(.int p4), (.int p3), (.int p2), (.ref a1)])) (fun _ k => XS.iloadN X6.here hx rfl (hb hby d22_32) rfl k) ?_
    obtain ⟨_, _, ⟨T8, L8, k8, n8⟩, -, X8, ⟨Lc8, hQ8, l8, y8, z8⟩, st8⟩ := Jvm.LawKit.callS X6 hx (y := (⟨"java/lang/StringLatin1", "indexOfChar", "([BIII)I"⟩ : MethodName)) hown (mvT hZ (hw _ (List.mem_of_getElem? (i := 117) rfl))) (mvT hZ (hw _ (List.mem_of_getElem? (i := 118) rfl))) (mvT hZ (hw _ (List.mem_of_getElem? (i := 43) rfl))) (mvT hZ (hw _ (List.mem_of_getElem? (i := 119) rfl))) (by decide) (backOf (W := 0) (rm26 l Z a0 hw [] a1 p2 p3 p4 kb cs h0 n0 Z0 V1 hcs hln hp2 hp3 hp4) hZ (hw _ (List.mem_of_getElem? (i := 119) rfl)) (hw _ (List.mem_of_getElem? (i := 43) rfl)) (by decide) (by decide)) (g := (mkF m 33 #[.val (.ref a1), .val (.int p2), .val (.int p3), .val (.int p4)] [(.int p4), (.int p3), (.int p2), (.ref a1)])) rfl (by rw [hml]; rfl) (argsL := [(.ref a1), (.int p2), (.int p3), (.int p4)]) (rest := []) (lenOf pd_8 rfl) rfl (by show 2 * 0 + _ ≤ _; exact Nat.le_of_eq rfl) (hb hby d22_33) (fun _ _ => ⟨rfl, e6, (by decide : 0 + 0 ≤ _), (by decide : 0 + 0 ≤ _)⟩)
    dsimp only [Pt.U, Pt.locs, Pt.cells, Pt.slots] at X8 l8 y8 z8 st8 hQ8
    subst l8 y8 z8
    obtain ⟨r8, rfl, N8q, e8, hr8⟩ := hQ8
    have N9 := Fr.app N7 N8q
    refine Go.via (S' := T8.setTop (mkF m 36 #[.val (.ref a1), .val (.int p2), .val (.int p3), .val (.int p4)] [(.int r8)])) (fun _ k => st8 _ k) ?_
    exact Go.retI X8 hx (BodyLoose.notSynchronized Bd) Bd.returns (hb hby d22_36) (by rw [e8]; exact ⟨_, rfl, N9, rfl, hr8⟩) (by decide) (by decide)
  · refine Go.via (S' := T6.setTop (mkF m 27 #[.val (.ref a1), .val (.int p2), .val (.int p3), .val (.int p4)] [])) (fun _ k => XS.icmpNo X6.here hx rfl (hb hby d22_24) rfl (flt hc24).1 k) ?_
    refine Go.via (S' := T6.setTop (mkF m 28 #[.val (.ref a1), .val (.int p2), .val (.int p3), .val (.int p4)] [(.int (-1 : Int32))])) (fun _ k => XS.iconst X6.here hx rfl (hb hby d22_27) k) ?_
    exact Go.retI X6 hx (BodyLoose.notSynchronized Bd) Bd.returns (hb hby d22_28) (by rw [e6]; exact ⟨_, rfl, N7, rfl, Or.inl ⟨by decide, own_emp hp3 hp4 hln hc24⟩⟩) (by decide) (by decide)
theorem d18_0 : decode jdk_42_method_80_code 0 = .ok (.aload_n 0, 1) := by decide +kernel
theorem d18_1 : decode jdk_42_method_80_code 1 = .ok (.invokevirtual 492, 3) := by decide +kernel
theorem pd_9 : parseMethodDescriptor "()Z" = some ⟨[], some .boolean⟩ := by decide +kernel
theorem d18_4 : decode jdk_42_method_80_code 4 = .ok (.ifCond .eq 19, 3) := by decide +kernel
theorem d18_7 : decode jdk_42_method_80_code 7 = .ok (.aload_n 0, 1) := by decide +kernel
theorem d18_8 : decode jdk_42_method_80_code 8 = .ok (.getfield 9, 3) := by decide +kernel
theorem d18_11 : decode jdk_42_method_80_code 11 = .ok (.iload_n 1, 1) := by decide +kernel
theorem d18_12 : decode jdk_42_method_80_code 12 = .ok (.iload_n 2, 1) := by decide +kernel
theorem d18_13 : decode jdk_42_method_80_code 13 = .ok (.aload_n 0, 1) := by decide +kernel
theorem d18_14 : decode jdk_42_method_80_code 14 = .ok (.invokevirtual 505, 3) := by decide +kernel
theorem pd_10 : parseMethodDescriptor "()I" = some ⟨[], some .int⟩ := by decide +kernel
theorem d18_17 : decode jdk_42_method_80_code 17 = .ok (.invokestatic 637, 3) := by decide +kernel
theorem d18_20 : decode jdk_42_method_80_code 20 = .ok (.goto 16, 3) := by decide +kernel
theorem d18_36 : decode jdk_42_method_80_code 36 = .ok (.ireturn, 1) := by decide +kernel
theorem ef_18 (m : MethodId) (x0 : Addr) (x1 : Int32) (x2 : Int32) : entryFrame m #[(.ref x0), (.int x1), (.int x2)] 3 = mkF m 0 #[.val (.ref x0), .val (.int x1), .val (.int x2)] [] := by first | (simp [entryFrame, mkF, argsToLocals, Value.category]; done) | rfl
def Q18 (Z : State) (a1 : Addr) (p2 : Int32) (p3 : Int32) (G1 : Int32) (t : Addr) (cs : List Int32) (h0 : Heap) (n0 : Nat) (v : Option Value) (h : Heap) (L : List Loc) : Prop := ∃ r : Int32, v = some (.int r) ∧ Fr n0 L ∧ h = h0 ∧ ((r < 0 ∧ ¬ 46 ∈ cs) ∨ (¬ r < 0 ∧ 46 ∈ cs))
set_option maxRecDepth 65536 in
set_option maxHeartbeats 40000000 in
theorem rm18 (l : Launch) (Z : State) (a0 : Array Value) (hw : ∀ d ∈ tables_1, d.before a0 Z = true) (ws : List Jvm.Cond) (a1 : Addr) (p2 : Int32) (p3 : Int32) (G1 : Int32) (t : Addr) (cs : List Int32) (h0 : Heap) (n0 : Nat) (Z0 : n0 ≤ h0.size) (X00 : Old Z n0 h0) (O2 : Sta Z Z.heap "java/lang/String" "COMPACT_STRINGS" "Z" (.int G1)) (P5 : ¬ G1 = (0 : Int32)) (S1 : own_LS Z h0 a1 t cs) (hp2 : p2 = (46 : Int32)) (hp3 : p3 = (0 : Int32)) :
    MetFree l (⟨"java/lang/String", "indexOf", "(II)I"⟩ : MethodName) (head1 (Jvm.Cond.code (⟨"java/lang/String", "indexOf", "(II)I"⟩ : MethodName) jdk_42_method_80_code 3 (some .int) :: ws) ({ frames := 2, cells := 0, slots := 0, locals := 32 } : Room)) (fun a U => a = #[(.ref a1), (.int p2), (.int p3)] ∧ Z.Warmed39 U.vm ∧ U.heap = h0) (fun _ _ _ _ _ => True) (fun _ U o U' => ∃ v L, o = .returned v ∧ Q18 Z a1 p2 p3 G1 t cs h0 n0 v U'.heap L ∧ FrameEnd U o U' L ({ frames := 2, cells := 0, slots := 0, locals := 32 } : Room).cells ({ frames := 2, cells := 0, slots := 0, locals := 32 } : Room).slots) := by
  refine MetFree.of_bodySF (plainFor_of_name pn_2) hisR ?_
  intro p e s m args below meth c s₁ Bd hml0 hP hK
  obtain ⟨rfl, hZ, hh⟩ := hP
  have hx := Bd.exec
  have hby := Bd.bytes
  have hml : c.maxLocals = 3 := hml0
  have hown : s.vm.findClass "java/lang/String" = some m.cls := findClass_of_methodNamed Bd.named
  have hnm := (name_of_methodNamed Bd.named Bd.method).1
  have X0 : Stand p l e ({ frames := 2, cells := 0, slots := 0, locals := 32 } : Room) s m #[(.ref a1), (.int p2), (.int p3)] below meth c s₁ [] 0 0 := Stand.of_body Bd
  have e0 : s₁.heap = h0 := by rw [← hh, Bd.state]; rfl
  have N0 := Fr.nil n0
  show Go p e below s (Q18 Z a1 p2 p3 G1 t cs h0 n0) ({ frames := 2, cells := 0, slots := 0, locals := 32 } : Room).cells ({ frames := 2, cells := 0, slots := 0, locals := 32 } : Room).slots _
  refine Go.via (S' := s₁.setTop (mkF m 0 #[.val (.ref a1), .val (.int p2), .val (.int p3)] [])) (fun t k => castTop (ef_18 m a1 p2 p3) k) ?_
  obtain ⟨kb, E1, F1, F2, V1, hcs, hln⟩ := id S1
  refine Go.via (S' := s₁.setTop (mkF m 1 #[.val (.ref a1), .val (.int p2), .val (.int p3)] [(.ref a1)])) (fun _ k => XS.aloadN X0.here hx rfl (hb hby d18_0) rfl rfl k) ?_
  obtain ⟨cq1, kq1, q1a, q1b, q1c⟩ := isOf hZ e0 E1
  obtain ⟨_, _, ⟨T1, L1, k1, n1⟩, -, X1, ⟨Lc1, hQ1, l1, y1, z1⟩, st1⟩ := X0.virtualBack hx (y := (⟨"java/lang/String", "isLatin1", "()Z"⟩ : MethodName)) (z := (⟨"java/lang/String", "isLatin1", "()Z"⟩ : MethodName)) hown (mvT hZ (hw _ (List.mem_of_getElem? (i := 89) rfl))) (mvT hZ (hw _ (List.mem_of_getElem? (i := 90) rfl))) (notFace_of_selects (args := #[]) (mvT hZ (hw _ (List.mem_of_getElem? (i := 92) rfl)))) (mvT hZ (hw _ (List.mem_of_getElem? (i := 92) rfl))) (mvT hZ (hw _ (List.mem_of_getElem? (i := 91) rfl))) (by decide) (backOf (W := 0) (rm19 l Z a0 hw [] a1 G1 h0 n0 Z0 X00 O2 P5 F2) hZ (hw _ (List.mem_of_getElem? (i := 93) rfl)) (hw _ (List.mem_of_getElem? (i := 10) rfl)) (by decide) (by decide)) q1a q1c (g := (mkF m 1 #[.val (.ref a1), .val (.int p2), .val (.int p3)] [(.ref a1)])) rfl (by rw [hml]; rfl) (Steps.refl _) (argsL := []) (rest := []) (lenOf pd_9 rfl) rfl (by show 2 * 0 + _ ≤ _; exact Nat.le_of_eq rfl) (hb hby d18_1) (fun _ _ => ⟨rfl, e0, (by decide : 0 + 0 ≤ _), (by decide : 0 + 0 ≤ _)⟩)
  dsimp only [Pt.U, Pt.locs, Pt.cells, Pt.slots] at X1 l1 y1 z1 st1 hQ1
  subst l1 y1 z1
  obtain ⟨rfl, N1q, e1⟩ := hQ1
  have N2 := Fr.app N0 N1q
  refine Go.via (S' := T1.setTop (mkF m 4 #[.val (.ref a1), .val (.int p2), .val (.int p3)] [(.int (1 : Int32))])) (fun _ k => st1.trans k) ?_
  refine Go.via (S' := T1.setTop (mkF m 7 #[.val (.ref a1), .val (.int p2), .val (.int p3)] [])) (fun _ k => XS.ifNo X1.here hx rfl (hb hby d18_4) rfl ((if0 _ _).trans (feq (by decide)).1) k) ?_
  refine Go.via (S' := T1.setTop (mkF m 8 #[.val (.ref a1), .val (.int p2), .val (.int p3)] [(.ref a1)])) (fun _ k => XS.aloadN X1.here hx rfl (hb hby d18_7) rfl rfl k) ?_
  obtain ⟨T3, X3, e3, st3⟩ := getF X1 hx hZ hown (host := "") (Or.inl (hw _ (List.mem_of_getElem? (i := 36) rfl))) Via.refl e1 F1 (g := (mkF m 8 #[.val (.ref a1), .val (.int p2), .val (.int p3)] [(.ref a1)])) rfl rfl (hb hby d18_8)
  refine Go.via (S' := T3.setTop (mkF m 11 #[.val (.ref a1), .val (.int p2), .val (.int p3)] [(.ref t)])) (fun _ k => st3 _ k) ?_
  refine Go.via (S' := T3.setTop (mkF m 12 #[.val (.ref a1), .val (.int p2), .val (.int p3)] [(.int p2), (.ref t)])) (fun _ k => XS.iloadN X3.here hx rfl (hb hby d18_11) rfl k) ?_
  refine Go.via (S' := T3.setTop (mkF m 13 #[.val (.ref a1), .val (.int p2), .val (.int p3)] [(.int p3), (.int p2), (.ref t)])) (fun _ k => XS.iloadN X3.here hx rfl (hb hby d18_12) rfl k) ?_
  refine Go.via (S' := T3.setTop (mkF m 14 #[.val (.ref a1), .val (.int p2), .val (.int p3)] [(.ref a1), (.int p3), (.int p2), (.ref t)])) (fun _ k => XS.aloadN X3.here hx rfl (hb hby d18_13) rfl rfl k) ?_
  obtain ⟨cq4, kq4, q4a, q4b, q4c⟩ := isOf hZ e3 E1
  obtain ⟨_, _, ⟨T4, L4, k4, n4⟩, -, X4, ⟨Lc4, hQ4, l4, y4, z4⟩, st4⟩ := X3.virtualBack hx (y := (⟨"java/lang/String", "length", "()I"⟩ : MethodName)) (z := (⟨"java/lang/String", "length", "()I"⟩ : MethodName)) hown (mvT hZ (hw _ (List.mem_of_getElem? (i := 94) rfl))) (mvT hZ (hw _ (List.mem_of_getElem? (i := 95) rfl))) (notFace_of_selects (args := #[]) (mvT hZ (hw _ (List.mem_of_getElem? (i := 97) rfl)))) (mvT hZ (hw _ (List.mem_of_getElem? (i := 97) rfl))) (mvT hZ (hw _ (List.mem_of_getElem? (i := 96) rfl))) (by decide) (backOf (W := 3) (rm20 l Z a0 hw [] a1 G1 t kb (Int32.ofNat cs.length) _ h0 n0 Z0 X00 O2 P5 E1 F1 F2 V1) hZ (hw _ (List.mem_of_getElem? (i := 98) rfl)) (hw _ (List.mem_of_getElem? (i := 10) rfl)) (by decide) (by decide)) q4a q4c (g := (mkF m 14 #[.val (.ref a1), .val (.int p2), .val (.int p3)] [(.ref a1), (.int p3), (.int p2), (.ref t)])) rfl (by rw [hml]; rfl) (Steps.refl _) (argsL := []) (rest := [(.int p3), (.int p2), (.ref t)]) (lenOf pd_10 rfl) rfl (by show 2 * 0 + _ ≤ _; exact Nat.le_of_eq rfl) (hb hby d18_14) (fun _ _ => ⟨rfl, e3, (by decide : 0 + 0 ≤ _), (by decide : 0 + 0 ≤ _)⟩)
  dsimp only [Pt.U, Pt.locs, Pt.cells, Pt.slots] at X4 l4 y4 z4 st4 hQ4
  subst l4 y4 z4
  obtain ⟨rfl, N4q, e4⟩ := hQ4
  have N5 := Fr.app N2 N4q
  refine Go.via (S' := T4.setTop (mkF m 17 #[.val (.ref a1), .val (.int p2), .val (.int p3)] [(.int (Int32.ofNat cs.length)), (.int p3), (.int p2), (.ref t)])) (fun _ k => st4.trans k) ?_
  obtain ⟨_, _, ⟨T6, L6, k6, n6⟩, -, X6, ⟨Lc6, hQ6, l6, y6, z6⟩, st6⟩ := Jvm.LawKit.callS X4 hx (y := (⟨"java/lang/StringLatin1", "indexOf", "([BIII)I"⟩ : MethodName)) hown (mvT hZ (hw _ (List.mem_of_getElem? (i := 104) rfl))) (mvT hZ (hw _ (List.mem_of_getElem? (i := 105) rfl))) (mvT hZ (hw _ (List.mem_of_getElem? (i := 43) rfl))) (mvT hZ (hw _ (List.mem_of_getElem? (i := 106) rfl))) (by decide) (backOf (W := 0) (rm22 l Z a0 hw [] t p2 p3 (Int32.ofNat cs.length) kb cs h0 n0 Z0 V1 hcs hln hp2 hp3 rfl) hZ (hw _ (List.mem_of_getElem? (i := 106) rfl)) (hw _ (List.mem_of_getElem? (i := 43) rfl)) (by decide) (by decide)) (g := (mkF m 17 #[.val (.ref a1), .val (.int p2), .val (.int p3)] [(.int (Int32.ofNat cs.length)), (.int p3), (.int p2), (.ref t)])) rfl (by rw [hml]; rfl) (argsL := [(.ref t), (.int p2), (.int p3), (.int (Int32.ofNat cs.length))]) (rest := []) (lenOf pd_8 rfl) rfl (by show 2 * 0 + _ ≤ _; exact Nat.le_of_eq rfl) (hb hby d18_17) (fun _ _ => ⟨rfl, e4, (by decide : 0 + 0 ≤ _), (by decide : 0 + 0 ≤ _)⟩)
  dsimp only [Pt.U, Pt.locs, Pt.cells, Pt.slots] at X6 l6 y6 z6 st6 hQ6
  subst l6 y6 z6
  obtain ⟨r6, rfl, N6q, e6, hr6⟩ := hQ6
  have N7 := Fr.app N5 N6q
  refine Go.via (S' := T6.setTop (mkF m 20 #[.val (.ref a1), .val (.int p2), .val (.int p3)] [(.int r6)])) (fun _ k => st6 _ k) ?_
  refine Go.via (S' := T6.setTop (mkF m 36 #[.val (.ref a1), .val (.int p2), .val (.int p3)] [(.int r6)])) (fun _ k => XS.goto X6.here hx rfl (pc0 := 20) (pc' := 36) rfl (hb hby d18_20) (by decide) (by decide) k) ?_
  exact Go.retI X6 hx (BodyLoose.notSynchronized Bd) Bd.returns (hb hby d18_36) (by rw [e6]; exact ⟨_, rfl, N7, rfl, hr6⟩) (by decide) (by decide)
theorem d17_0 : decode jdk_42_method_79_code 0 = .ok (.aload_n 0, 1) := by decide +kernel
theorem d17_1 : decode jdk_42_method_79_code 1 = .ok (.iload_n 1, 1) := by decide +kernel
theorem d17_2 : decode jdk_42_method_79_code 2 = .ok (.iconst 0, 1) := by decide +kernel
theorem d17_3 : decode jdk_42_method_79_code 3 = .ok (.invokevirtual 633, 3) := by decide +kernel
theorem d17_6 : decode jdk_42_method_79_code 6 = .ok (.ireturn, 1) := by decide +kernel
theorem ef_17 (m : MethodId) (x0 : Addr) (x1 : Int32) : entryFrame m #[(.ref x0), (.int x1)] 2 = mkF m 0 #[.val (.ref x0), .val (.int x1)] [] := by first | (simp [entryFrame, mkF, argsToLocals, Value.category]; done) | rfl
def Q17 (Z : State) (a1 : Addr) (p2 : Int32) (G1 : Int32) (t : Addr) (cs : List Int32) (h0 : Heap) (n0 : Nat) (v : Option Value) (h : Heap) (L : List Loc) : Prop := ∃ r : Int32, v = some (.int r) ∧ Fr n0 L ∧ h = h0 ∧ ((r < 0 ∧ ¬ 46 ∈ cs) ∨ (¬ r < 0 ∧ 46 ∈ cs))
set_option maxRecDepth 65536 in
set_option maxHeartbeats 40000000 in
theorem rm17 (l : Launch) (Z : State) (a0 : Array Value) (hw : ∀ d ∈ tables_1, d.before a0 Z = true) (ws : List Jvm.Cond) (a1 : Addr) (p2 : Int32) (G1 : Int32) (t : Addr) (cs : List Int32) (h0 : Heap) (n0 : Nat) (Z0 : n0 ≤ h0.size) (X00 : Old Z n0 h0) (O2 : Sta Z Z.heap "java/lang/String" "COMPACT_STRINGS" "Z" (.int G1)) (P5 : ¬ G1 = (0 : Int32)) (S1 : own_LS Z h0 a1 t cs) (hp2 : p2 = (46 : Int32)) :
    MetFree l (⟨"java/lang/String", "indexOf", "(I)I"⟩ : MethodName) (head1 (Jvm.Cond.code (⟨"java/lang/String", "indexOf", "(I)I"⟩ : MethodName) jdk_42_method_79_code 2 (some .int) :: ws) ({ frames := 3, cells := 0, slots := 0, locals := 46 } : Room)) (fun a U => a = #[(.ref a1), (.int p2)] ∧ Z.Warmed39 U.vm ∧ U.heap = h0) (fun _ _ _ _ _ => True) (fun _ U o U' => ∃ v L, o = .returned v ∧ Q17 Z a1 p2 G1 t cs h0 n0 v U'.heap L ∧ FrameEnd U o U' L ({ frames := 3, cells := 0, slots := 0, locals := 46 } : Room).cells ({ frames := 3, cells := 0, slots := 0, locals := 46 } : Room).slots) := by
  refine MetFree.of_bodySF (plainFor_of_name pn_2) hisR ?_
  intro p e s m args below meth c s₁ Bd hml0 hP hK
  obtain ⟨rfl, hZ, hh⟩ := hP
  have hx := Bd.exec
  have hby := Bd.bytes
  have hml : c.maxLocals = 2 := hml0
  have hown : s.vm.findClass "java/lang/String" = some m.cls := findClass_of_methodNamed Bd.named
  have hnm := (name_of_methodNamed Bd.named Bd.method).1
  have X0 : Stand p l e ({ frames := 3, cells := 0, slots := 0, locals := 46 } : Room) s m #[(.ref a1), (.int p2)] below meth c s₁ [] 0 0 := Stand.of_body Bd
  have e0 : s₁.heap = h0 := by rw [← hh, Bd.state]; rfl
  have N0 := Fr.nil n0
  show Go p e below s (Q17 Z a1 p2 G1 t cs h0 n0) ({ frames := 3, cells := 0, slots := 0, locals := 46 } : Room).cells ({ frames := 3, cells := 0, slots := 0, locals := 46 } : Room).slots _
  refine Go.via (S' := s₁.setTop (mkF m 0 #[.val (.ref a1), .val (.int p2)] [])) (fun t k => castTop (ef_17 m a1 p2) k) ?_
  obtain ⟨kb, E1, F1, F2, V1, hcs, hln⟩ := id S1
  refine Go.via (S' := s₁.setTop (mkF m 1 #[.val (.ref a1), .val (.int p2)] [(.ref a1)])) (fun _ k => XS.aloadN X0.here hx rfl (hb hby d17_0) rfl rfl k) ?_
  refine Go.via (S' := s₁.setTop (mkF m 2 #[.val (.ref a1), .val (.int p2)] [(.int p2), (.ref a1)])) (fun _ k => XS.iloadN X0.here hx rfl (hb hby d17_1) rfl k) ?_
  refine Go.via (S' := s₁.setTop (mkF m 3 #[.val (.ref a1), .val (.int p2)] [(.int (0 : Int32)), (.int p2), (.ref a1)])) (fun _ k => XS.iconst X0.here hx rfl (hb hby d17_2) k) ?_
  obtain ⟨cq1, kq1, q1a, q1b, q1c⟩ := isOf hZ e0 E1
  obtain ⟨_, _, ⟨T1, L1, k1, n1⟩, -, X1, ⟨Lc1, hQ1, l1, y1, z1⟩, st1⟩ := X0.virtualBack hx (y := (⟨"java/lang/String", "indexOf", "(II)I"⟩ : MethodName)) (z := (⟨"java/lang/String", "indexOf", "(II)I"⟩ : MethodName)) hown (mvT hZ (hw _ (List.mem_of_getElem? (i := 84) rfl))) (mvT hZ (hw _ (List.mem_of_getElem? (i := 85) rfl))) (notFace_of_selects (args := #[]) (mvT hZ (hw _ (List.mem_of_getElem? (i := 87) rfl)))) (mvT hZ (hw _ (List.mem_of_getElem? (i := 87) rfl))) (mvT hZ (hw _ (List.mem_of_getElem? (i := 86) rfl))) (by decide) (backOf (W := 0) (rm18 l Z a0 hw [] a1 p2 (0 : Int32) G1 t cs h0 n0 Z0 X00 O2 P5 S1 hp2 rfl) hZ (hw _ (List.mem_of_getElem? (i := 88) rfl)) (hw _ (List.mem_of_getElem? (i := 10) rfl)) (by decide) (by decide)) q1a q1c (g := (mkF m 3 #[.val (.ref a1), .val (.int p2)] [(.int (0 : Int32)), (.int p2), (.ref a1)])) rfl (by rw [hml]; rfl) (Steps.refl _) (argsL := [(.int p2), (.int (0 : Int32))]) (rest := []) (lenOf pd_7 rfl) rfl (by show 2 * 0 + _ ≤ _; exact Nat.le_of_eq rfl) (hb hby d17_3) (fun _ _ => ⟨rfl, e0, (by decide : 0 + 0 ≤ _), (by decide : 0 + 0 ≤ _)⟩)
  dsimp only [Pt.U, Pt.locs, Pt.cells, Pt.slots] at X1 l1 y1 z1 st1 hQ1
  subst l1 y1 z1
  obtain ⟨r1, rfl, N1q, e1, hr1⟩ := hQ1
  have N2 := Fr.app N0 N1q
  refine Go.via (S' := T1.setTop (mkF m 6 #[.val (.ref a1), .val (.int p2)] [(.int r1)])) (fun _ k => st1.trans k) ?_
  exact Go.retI X1 hx (BodyLoose.notSynchronized Bd) Bd.returns (hb hby d17_6) (by rw [e1]; exact ⟨_, rfl, N2, rfl, hr1⟩) (by decide) (by decide)
theorem d16_0 : decode prog_70_method_7_code 0 = .ok (.aload_n 0, 1) := by decide +kernel
theorem d16_1 : decode prog_70_method_7_code 1 = .ok (.getfield 16, 3) := by decide +kernel
theorem d16_4 : decode prog_70_method_7_code 4 = .ok (.bipush 46, 2) := by decide +kernel
theorem d16_6 : decode prog_70_method_7_code 6 = .ok (.invokevirtual 25, 3) := by decide +kernel
theorem pd_11 : parseMethodDescriptor "(I)I" = some ⟨[.int], some .int⟩ := by decide +kernel
theorem d16_9 : decode prog_70_method_7_code 9 = .ok (.ifCond .ge 7, 3) := by decide +kernel
theorem d16_12 : decode prog_70_method_7_code 12 = .ok (.iconst 1, 1) := by decide +kernel
theorem d16_13 : decode prog_70_method_7_code 13 = .ok (.goto 4, 3) := by decide +kernel
theorem d16_17 : decode prog_70_method_7_code 17 = .ok (.ireturn, 1) := by decide +kernel
theorem d16_16 : decode prog_70_method_7_code 16 = .ok (.iconst 0, 1) := by decide +kernel
theorem ef_16 (m : MethodId) (x0 : Addr) : entryFrame m #[(.ref x0)] 1 = mkF m 0 #[.val (.ref x0)] [] := by first | (simp [entryFrame, mkF, argsToLocals, Value.category]; done) | rfl
def Q16 (Z : State) (a1 : Addr) (x : Addr) (G1 : Int32) (t : Addr) (cs : List Int32) (h0 : Heap) (n0 : Nat) (v : Option Value) (h : Heap) (L : List Loc) : Prop := ∃ r : Int32, v = some (.int r) ∧ Fr n0 L ∧ h = h0 ∧ ((r = 1 ∧ ¬ 46 ∈ cs) ∨ (r = 0 ∧ 46 ∈ cs))
set_option maxRecDepth 65536 in
set_option maxHeartbeats 40000000 in
theorem rm16 (l : Launch) (Z : State) (a0 : Array Value) (hw : ∀ d ∈ tables_1, d.before a0 Z = true) (ws : List Jvm.Cond) (a1 : Addr) (x : Addr) (G1 : Int32) (t : Addr) (cs : List Int32) (h0 : Heap) (n0 : Nat) (Z0 : n0 ≤ h0.size) (Fn : Fld Z h0 a1 "com/example/amendatory/amendatory/ProvisionName" "number" "Ljava/lang/String;" (.ref x)) (X00 : Old Z n0 h0) (O2 : Sta Z Z.heap "java/lang/String" "COMPACT_STRINGS" "Z" (.int G1)) (P5 : ¬ G1 = (0 : Int32)) (S1 : own_LS Z h0 x t cs) :
    MetFree l (⟨"com/example/amendatory/amendatory/ProvisionName", "isSection", "()Z"⟩ : MethodName) (head1 (Jvm.Cond.code (⟨"com/example/amendatory/amendatory/ProvisionName", "isSection", "()Z"⟩ : MethodName) prog_70_method_7_code 1 (some .boolean) :: ws) ({ frames := 4, cells := 0, slots := 0, locals := 59 } : Room)) (fun a U => a = #[(.ref a1)] ∧ Z.Warmed39 U.vm ∧ U.heap = h0) (fun _ _ _ _ _ => True) (fun _ U o U' => ∃ v L, o = .returned v ∧ Q16 Z a1 x G1 t cs h0 n0 v U'.heap L ∧ FrameEnd U o U' L ({ frames := 4, cells := 0, slots := 0, locals := 59 } : Room).cells ({ frames := 4, cells := 0, slots := 0, locals := 59 } : Room).slots) := by
  refine MetFree.of_bodySF (plainFor_of_name pn_3) hisR ?_
  intro p e s m args below meth c s₁ Bd hml0 hP hK
  obtain ⟨rfl, hZ, hh⟩ := hP
  have hx := Bd.exec
  have hby := Bd.bytes
  have hml : c.maxLocals = 1 := hml0
  have hown : s.vm.findClass "com/example/amendatory/amendatory/ProvisionName" = some m.cls := findClass_of_methodNamed Bd.named
  have hnm := (name_of_methodNamed Bd.named Bd.method).1
  have X0 : Stand p l e ({ frames := 4, cells := 0, slots := 0, locals := 59 } : Room) s m #[(.ref a1)] below meth c s₁ [] 0 0 := Stand.of_body Bd
  have e0 : s₁.heap = h0 := by rw [← hh, Bd.state]; rfl
  have N0 := Fr.nil n0
  show Go p e below s (Q16 Z a1 x G1 t cs h0 n0) ({ frames := 4, cells := 0, slots := 0, locals := 59 } : Room).cells ({ frames := 4, cells := 0, slots := 0, locals := 59 } : Room).slots _
  refine Go.via (S' := s₁.setTop (mkF m 0 #[.val (.ref a1)] [])) (fun t k => castTop (ef_16 m a1) k) ?_
  obtain ⟨kb, Ex, -⟩ := id S1
  refine Go.via (S' := s₁.setTop (mkF m 1 #[.val (.ref a1)] [(.ref a1)])) (fun _ k => XS.aloadN X0.here hx rfl (hb hby d16_0) rfl rfl k) ?_
  obtain ⟨T1, X1, e1, st1⟩ := getF X0 hx hZ hown (host := "") (Or.inl (hw _ (List.mem_of_getElem? (i := 64) rfl))) Via.refl e0 Fn (g := (mkF m 1 #[.val (.ref a1)] [(.ref a1)])) rfl rfl (hb hby d16_1)
  refine Go.via (S' := T1.setTop (mkF m 4 #[.val (.ref a1)] [(.ref x)])) (fun _ k => st1 _ k) ?_
  refine Go.via (S' := T1.setTop (mkF m 6 #[.val (.ref a1)] [(.int (46 : Int32)), (.ref x)])) (fun _ k => XS.bipush X1.here hx rfl (hb hby d16_4) k) ?_
  obtain ⟨cq2, kq2, q2a, q2b, q2c⟩ := isOf hZ e1 Ex
  obtain ⟨_, _, ⟨T2, L2, k2, n2⟩, -, X2, ⟨Lc2, hQ2, l2, y2, z2⟩, st2⟩ := X1.virtualBack hx (y := (⟨"java/lang/String", "indexOf", "(I)I"⟩ : MethodName)) (z := (⟨"java/lang/String", "indexOf", "(I)I"⟩ : MethodName)) hown (mvT hZ (hw _ (List.mem_of_getElem? (i := 79) rfl))) (mvT hZ (hw _ (List.mem_of_getElem? (i := 80) rfl))) (notFace_of_selects (args := #[]) (mvT hZ (hw _ (List.mem_of_getElem? (i := 82) rfl)))) (mvT hZ (hw _ (List.mem_of_getElem? (i := 82) rfl))) (mvT hZ (hw _ (List.mem_of_getElem? (i := 81) rfl))) (by decide) (backOf (W := 0) (rm17 l Z a0 hw [] x (46 : Int32) G1 t cs h0 n0 Z0 X00 O2 P5 S1 rfl) hZ (hw _ (List.mem_of_getElem? (i := 83) rfl)) (hw _ (List.mem_of_getElem? (i := 10) rfl)) (by decide) (by decide)) q2a q2c (g := (mkF m 6 #[.val (.ref a1)] [(.int (46 : Int32)), (.ref x)])) rfl (by rw [hml]; rfl) (Steps.refl _) (argsL := [(.int (46 : Int32))]) (rest := []) (lenOf pd_11 rfl) rfl (by show 2 * 0 + _ ≤ _; exact Nat.le_of_eq rfl) (hb hby d16_6) (fun _ _ => ⟨rfl, e1, (by decide : 0 + 0 ≤ _), (by decide : 0 + 0 ≤ _)⟩)
  dsimp only [Pt.U, Pt.locs, Pt.cells, Pt.slots] at X2 l2 y2 z2 st2 hQ2
  subst l2 y2 z2
  obtain ⟨r2, rfl, N2q, e2, hr2⟩ := hQ2
  have N3 := Fr.app N0 N2q
  refine Go.via (S' := T2.setTop (mkF m 9 #[.val (.ref a1)] [(.int r2)])) (fun _ k => st2.trans k) ?_
  rcases Decidable.em (r2 < (0 : Int32)) with hc9 | hc9
  · refine Go.via (S' := T2.setTop (mkF m 12 #[.val (.ref a1)] [])) (fun _ k => XS.ifNo X2.here hx rfl (hb hby d16_9) rfl ((if0 _ _).trans (tlt hc9).2.1) k) ?_
    refine Go.via (S' := T2.setTop (mkF m 13 #[.val (.ref a1)] [(.int (1 : Int32))])) (fun _ k => XS.iconst X2.here hx rfl (hb hby d16_12) k) ?_
    refine Go.via (S' := T2.setTop (mkF m 17 #[.val (.ref a1)] [(.int (1 : Int32))])) (fun _ k => XS.goto X2.here hx rfl (pc0 := 13) (pc' := 17) rfl (hb hby d16_13) (by decide) (by decide) k) ?_
    exact Go.retB X2 hx (BodyLoose.notSynchronized Bd) Bd.returns (hb hby d16_17) rfl (by rw [e2]; exact ⟨_, rfl, N3, rfl, Or.inl ⟨rfl, hr2.elim (fun q => q.2) (fun q => absurd hc9 q.1)⟩⟩) (by decide) (by decide)
  · refine Go.via (S' := T2.setTop (mkF m 16 #[.val (.ref a1)] [])) (fun _ k => XS.ifYes X2.here hx rfl (pc0 := 9) (pc' := 16) rfl (hb hby d16_9) rfl ((if0 _ _).trans (flt hc9).2.1) (by decide) (by decide) k) ?_
    refine Go.via (S' := T2.setTop (mkF m 17 #[.val (.ref a1)] [(.int (0 : Int32))])) (fun _ k => XS.iconst X2.here hx rfl (hb hby d16_16) k) ?_
    exact Go.retB X2 hx (BodyLoose.notSynchronized Bd) Bd.returns (hb hby d16_17) rfl (by rw [e2]; exact ⟨_, rfl, N3, rfl, Or.inr ⟨rfl, hr2.elim (fun q => absurd q.1 hc9) (fun q => q.2)⟩⟩) (by decide) (by decide)
theorem pd_12 : parseMethodDescriptor "(III)C" = some ⟨[.int, .int, .int], some .char⟩ := by decide +kernel
theorem pd_13 : parseMethodDescriptor "(ICCCC)Ljava/lang/String;" = some ⟨[.int, .char, .char, .char, .char], some (.object "java/lang/String")⟩ := by decide +kernel
theorem pd_14 : parseMethodDescriptor "(C)Ljava/lang/String;" = some ⟨[.char], some (.object "java/lang/String")⟩ := by decide +kernel
theorem pd_15 : parseMethodDescriptor "(Ljava/lang/String;Ljava/lang/String;)V" = some ⟨[(.object "java/lang/String"), (.object "java/lang/String")], none⟩ := by decide +kernel
theorem pd_16 : parseMethodDescriptor "(Ljava/lang/String;)Lcom/example/amendatory/amendatory/ProvisionName;" = some ⟨[(.object "java/lang/String")], some (.object "com/example/amendatory/amendatory/ProvisionName")⟩ := by decide +kernel
theorem ef_0 (m : MethodId) (x0 : Int32) (x1 : Int32) (x2 : Int32) (x3 : Int32) : entryFrame m #[(.int x0), (.int x1), (.int x2), (.int x3)] maxLocals = mkF m 0 #[.val (.int x0), .val (.int x1), .val (.int x2), .val (.int x3), .unset, .unset, .unset, .unset, .unset, .unset, .unset, .unset, .unset, .unset, .unset, .unset, .unset] [] := by first | (simp [entryFrame, mkF, argsToLocals, Value.category, maxLocals]; done) | rfl
def Q0 (Z : State) (p1 : Int32) (p2 : Int32) (p3 : Int32) (p4 : Int32) (G1 : Int32) (h0 : Heap) (n0 : Nat) (v : Option Value) (h : Heap) (L : List Loc) : Prop := v = some (.int 1) ∧ Fr n0 L
set_option maxRecDepth 65536 in
set_option maxHeartbeats 40000000 in
theorem rm0 (l : Launch) (Z : State) (a0 : Array Value) (hw : ∀ d ∈ tables_1, d.before a0 Z = true) (ws : List Jvm.Cond) (p1 : Int32) (p2 : Int32) (p3 : Int32) (p4 : Int32) (G1 : Int32) (h0 : Heap) (n0 : Nat) (Z0 : n0 ≤ h0.size) (X00 : Old Z n0 h0) (O2 : Sta Z Z.heap "java/lang/String" "COMPACT_STRINGS" "Z" (.int G1)) (P5 : ¬ G1 = (0 : Int32)) (hch : Jvm.Lit.constHeld Z "com/example/amendatory/amendatory/ProvisionNameIsSectionPinLaw" 37) (hcw : Jvm.Lit.compactW.before a0 Z = true) :
    MetFree l x (head1 (Jvm.Cond.code x code maxLocals ret :: ws) room_1) (fun a U => a = #[(.int p1), (.int p2), (.int p3), (.int p4)] ∧ Z.Warmed39 U.vm ∧ U.heap = h0 ∧ U.vm.interned = Z.vm.interned) (fun _ _ _ _ _ => True) (fun _ U o U' => ∃ v L, o = .returned v ∧ Q0 Z p1 p2 p3 p4 G1 h0 n0 v U'.heap L ∧ ReturnedEndW U o U' L room_1.cells room_1.slots) := by
  refine MetFree.of_bodySF (plainFor_of_name pn_0) hisR ?_
  intro p e s m args below meth c s₁ Bd hml0 hP hK
  obtain ⟨rfl, hZ, hh, hI⟩ := hP
  have hx := Bd.exec
  have hby := Bd.bytes
  have hml : c.maxLocals = 17 := hml0
  have hown : s.vm.findClass "com/example/amendatory/amendatory/ProvisionNameIsSectionPinLaw" = some m.cls := findClass_of_methodNamed Bd.named
  have hnm := (name_of_methodNamed Bd.named Bd.method).1
  have X0 : Stand p l e room_1 (s.setVm s.vm) m #[(.int p1), (.int p2), (.int p3), (.int p4)] below meth c s₁ [] 0 0 := Stand.of_body Bd
  have e0 : s₁.heap = h0 := by rw [← hh, Bd.state]; rfl
  have N0 := Fr.nil n0
  have hwS : ∀ a ∈ Bundle.stringAtoms, a.before a0 Z = true := fun d hd => hw d ((by decide +kernel : ∀ d ∈ Bundle.stringAtoms, d ∈ tables_1) d hd)
  have hS0 : s.Since s.vm h0.size := (State.WarmedH.refl s).since _
  have hk0 : h0.size ≤ h0.size := Nat.le_refl _
  show GoW p e below s (Q0 Z p1 p2 p3 p4 G1 h0 n0) room_1.cells room_1.slots _
  refine GoW.via (S' := s₁.setTop (mkF m 0 #[.val (.int p1), .val (.int p2), .val (.int p3), .val (.int p4), .unset, .unset, .unset, .unset, .unset, .unset, .unset, .unset, .unset, .unset, .unset, .unset, .unset] [])) (fun t k => castTop (ef_0 m p1 p2 p3 p4) k) ?_
  suffices J6 : ∀ (n : Int32) (hn : ¬ n < 0), GoW p e below s (Q0 Z p1 p2 p3 p4 G1 h0 n0) room_1.cells room_1.slots (s₁.setTop (mkF m 6 #[.val (.int p1), .val (.int p2), .val (.int p3), .val (.int p4), .unset, .unset, .unset, .unset, .unset, .unset, .unset, .unset, .unset, .unset, .unset, .unset, .unset] [(.int n)])) by
    refine GoW.via (S' := s₁.setTop (mkF m 1 #[.val (.int p1), .val (.int p2), .val (.int p3), .val (.int p4), .unset, .unset, .unset, .unset, .unset, .unset, .unset, .unset, .unset, .unset, .unset, .unset, .unset] [(.int p3)])) (fun _ k => XS.iloadN X0.here hx rfl (hb hby at_0) rfl k) ?_
    refine GoW.via (S' := s₁.setTop (mkF m 3 #[.val (.int p1), .val (.int p2), .val (.int p3), .val (.int p4), .unset, .unset, .unset, .unset, .unset, .unset, .unset, .unset, .unset, .unset, .unset, .unset, .unset] [(.int (2147483647 : Int32)), (.int p3)])) (fun _ k => X0.ldcInt hx hown (mvT hZ (hw _ (List.mem_of_getElem? (i := 0) rfl))) (g := (mkF m 1 #[.val (.int p1), .val (.int p2), .val (.int p3), .val (.int p4), .unset, .unset, .unset, .unset, .unset, .unset, .unset, .unset, .unset, .unset, .unset, .unset, .unset] [(.int p3)])) rfl (hb hby at_1) _ k) ?_
    refine GoW.via (S' := s₁.setTop (mkF m 4 #[.val (.int p1), .val (.int p2), .val (.int p3), .val (.int p4), .unset, .unset, .unset, .unset, .unset, .unset, .unset, .unset, .unset, .unset, .unset, .unset, .unset] [(.int (p3 &&& (2147483647 : Int32)))])) (fun _ k => XS.iand X0.here hx rfl (hb hby at_3) rfl k) ?_
    refine GoW.via (S' := s₁.setTop (mkF m 5 #[.val (.int p1), .val (.int p2), .val (.int p3), .val (.int p4), .unset, .unset, .unset, .unset, .unset, .unset, .unset, .unset, .unset, .unset, .unset, .unset, .unset] [(.int (5 : Int32)), (.int (p3 &&& (2147483647 : Int32)))])) (fun _ k => XS.iconst X0.here hx rfl (hb hby at_4) k) ?_
    refine GoW.via (S' := s₁.setTop (mkF m 6 #[.val (.int p1), .val (.int p2), .val (.int p3), .val (.int p4), .unset, .unset, .unset, .unset, .unset, .unset, .unset, .unset, .unset, .unset, .unset, .unset, .unset] [(.int ((p3 &&& (2147483647 : Int32)) % (5 : Int32)))])) (fun _ k => iremM X0 hx rfl (hb hby at_5) rfl (by decide) k) ?_
    exact J6 _ (own_n _)
  intro n hn
  refine GoW.via (S' := s₁.setTop (mkF m 8 #[.val (.int p1), .val (.int p2), .val (.int p3), .val (.int p4), .val (.int n), .unset, .unset, .unset, .unset, .unset, .unset, .unset, .unset, .unset, .unset, .unset, .unset] [])) (fun _ k => XS.istore X0.here hx rfl (hb hby at_6) rfl (l' := #[.val (.int p1), .val (.int p2), .val (.int p3), .val (.int p4), .val (.int n), .unset, .unset, .unset, .unset, .unset, .unset, .unset, .unset, .unset, .unset, .unset, .unset]) rfl k) ?_
  refine GoW.via (S' := s₁.setTop (mkF m 9 #[.val (.int p1), .val (.int p2), .val (.int p3), .val (.int p4), .val (.int n), .unset, .unset, .unset, .unset, .unset, .unset, .unset, .unset, .unset, .unset, .unset, .unset] [(.int p1)])) (fun _ k => XS.iloadN X0.here hx rfl (hb hby at_8) rfl k) ?_
  refine GoW.via (S' := s₁.setTop (mkF m 10 #[.val (.int p1), .val (.int p2), .val (.int p3), .val (.int p4), .val (.int n), .unset, .unset, .unset, .unset, .unset, .unset, .unset, .unset, .unset, .unset, .unset, .unset] [(.int p2), (.int p1)])) (fun _ k => XS.iloadN X0.here hx rfl (hb hby at_9) rfl k) ?_
  refine GoW.via (S' := s₁.setTop (mkF m 11 #[.val (.int p1), .val (.int p2), .val (.int p3), .val (.int p4), .val (.int n), .unset, .unset, .unset, .unset, .unset, .unset, .unset, .unset, .unset, .unset, .unset, .unset] [(.int (0 : Int32)), (.int p2), (.int p1)])) (fun _ k => XS.iconst X0.here hx rfl (hb hby at_10) k) ?_
  obtain ⟨_, _, ⟨T1, L1, k1, n1⟩, -, X1, ⟨Lc1, hQ1, l1, y1, z1⟩, st1⟩ := Jvm.LawKit.callS X0 hx (y := (⟨"com/example/amendatory/amendatory/ProvisionNameIsSectionPinLaw", "pick", "(III)C"⟩ : MethodName)) hown (mvT hZ (hw _ (List.mem_of_getElem? (i := 1) rfl))) (mvT hZ (hw _ (List.mem_of_getElem? (i := 2) rfl))) (mvT hZ (hw _ (List.mem_of_getElem? (i := 3) rfl))) (mvT hZ (hw _ (List.mem_of_getElem? (i := 4) rfl))) (by decide) (backOf (W := 0) (rm1 l Z a0 hw [] p1 p2 (0 : Int32) h0 n0 Z0) hZ (hw _ (List.mem_of_getElem? (i := 4) rfl)) (hw _ (List.mem_of_getElem? (i := 3) rfl)) (by decide) (by decide)) (g := (mkF m 11 #[.val (.int p1), .val (.int p2), .val (.int p3), .val (.int p4), .val (.int n), .unset, .unset, .unset, .unset, .unset, .unset, .unset, .unset, .unset, .unset, .unset, .unset] [(.int (0 : Int32)), (.int p2), (.int p1)])) rfl (by rw [hml]; rfl) (argsL := [(.int p1), (.int p2), (.int (0 : Int32))]) (rest := []) (lenOf pd_12 rfl) rfl (by show 2 * 0 + _ ≤ _; exact Nat.le_of_eq rfl) (hb hby at_11) (fun _ _ => ⟨rfl, e0, (by decide : 0 + 0 ≤ _), (by decide : 0 + 0 ≤ _)⟩)
  dsimp only [Pt.U, Pt.locs, Pt.cells, Pt.slots] at X1 l1 y1 z1 st1 hQ1
  subst l1 y1 z1
  obtain ⟨r1, rfl, N1q, e1, hr1⟩ := hQ1
  have N2 := Fr.app N0 N1q
  refine GoW.via (S' := T1.setTop (mkF m 14 #[.val (.int p1), .val (.int p2), .val (.int p3), .val (.int p4), .val (.int n), .unset, .unset, .unset, .unset, .unset, .unset, .unset, .unset, .unset, .unset, .unset, .unset] [(.int r1)])) (fun _ k => st1 _ k) ?_
  refine GoW.via (S' := T1.setTop (mkF m 16 #[.val (.int p1), .val (.int p2), .val (.int p3), .val (.int p4), .val (.int n), .val (.int r1), .unset, .unset, .unset, .unset, .unset, .unset, .unset, .unset, .unset, .unset, .unset] [])) (fun _ k => XS.istore X1.here hx rfl (hb hby at_14) rfl (l' := #[.val (.int p1), .val (.int p2), .val (.int p3), .val (.int p4), .val (.int n), .val (.int r1), .unset, .unset, .unset, .unset, .unset, .unset, .unset, .unset, .unset, .unset, .unset]) rfl k) ?_
  refine GoW.via (S' := T1.setTop (mkF m 17 #[.val (.int p1), .val (.int p2), .val (.int p3), .val (.int p4), .val (.int n), .val (.int r1), .unset, .unset, .unset, .unset, .unset, .unset, .unset, .unset, .unset, .unset, .unset] [(.int p1)])) (fun _ k => XS.iloadN X1.here hx rfl (hb hby at_16) rfl k) ?_
  refine GoW.via (S' := T1.setTop (mkF m 18 #[.val (.int p1), .val (.int p2), .val (.int p3), .val (.int p4), .val (.int n), .val (.int r1), .unset, .unset, .unset, .unset, .unset, .unset, .unset, .unset, .unset, .unset, .unset] [(.int p2), (.int p1)])) (fun _ k => XS.iloadN X1.here hx rfl (hb hby at_17) rfl k) ?_
  refine GoW.via (S' := T1.setTop (mkF m 19 #[.val (.int p1), .val (.int p2), .val (.int p3), .val (.int p4), .val (.int n), .val (.int r1), .unset, .unset, .unset, .unset, .unset, .unset, .unset, .unset, .unset, .unset, .unset] [(.int (1 : Int32)), (.int p2), (.int p1)])) (fun _ k => XS.iconst X1.here hx rfl (hb hby at_18) k) ?_
  obtain ⟨_, _, ⟨T3, L3, k3, n3⟩, -, X3, ⟨Lc3, hQ3, l3, y3, z3⟩, st3⟩ := Jvm.LawKit.callS X1 hx (y := (⟨"com/example/amendatory/amendatory/ProvisionNameIsSectionPinLaw", "pick", "(III)C"⟩ : MethodName)) hown (mvT hZ (hw _ (List.mem_of_getElem? (i := 1) rfl))) (mvT hZ (hw _ (List.mem_of_getElem? (i := 2) rfl))) (mvT hZ (hw _ (List.mem_of_getElem? (i := 3) rfl))) (mvT hZ (hw _ (List.mem_of_getElem? (i := 4) rfl))) (by decide) (backOf (W := 0) (rm1 l Z a0 hw [] p1 p2 (1 : Int32) h0 n0 Z0) hZ (hw _ (List.mem_of_getElem? (i := 4) rfl)) (hw _ (List.mem_of_getElem? (i := 3) rfl)) (by decide) (by decide)) (g := (mkF m 19 #[.val (.int p1), .val (.int p2), .val (.int p3), .val (.int p4), .val (.int n), .val (.int r1), .unset, .unset, .unset, .unset, .unset, .unset, .unset, .unset, .unset, .unset, .unset] [(.int (1 : Int32)), (.int p2), (.int p1)])) rfl (by rw [hml]; rfl) (argsL := [(.int p1), (.int p2), (.int (1 : Int32))]) (rest := []) (lenOf pd_12 rfl) rfl (by show 2 * 0 + _ ≤ _; exact Nat.le_of_eq rfl) (hb hby at_19) (fun _ _ => ⟨rfl, e1, (by decide : 0 + 0 ≤ _), (by decide : 0 + 0 ≤ _)⟩)
  dsimp only [Pt.U, Pt.locs, Pt.cells, Pt.slots] at X3 l3 y3 z3 st3 hQ3
  subst l3 y3 z3
  obtain ⟨r3, rfl, N3q, e3, hr3⟩ := hQ3
  have N4 := Fr.app N2 N3q
  refine GoW.via (S' := T3.setTop (mkF m 22 #[.val (.int p1), .val (.int p2), .val (.int p3), .val (.int p4), .val (.int n), .val (.int r1), .unset, .unset, .unset, .unset, .unset, .unset, .unset, .unset, .unset, .unset, .unset] [(.int r3)])) (fun _ k => st3 _ k) ?_
  refine GoW.via (S' := T3.setTop (mkF m 24 #[.val (.int p1), .val (.int p2), .val (.int p3), .val (.int p4), .val (.int n), .val (.int r1), .val (.int r3), .unset, .unset, .unset, .unset, .unset, .unset, .unset, .unset, .unset, .unset] [])) (fun _ k => XS.istore X3.here hx rfl (hb hby at_22) rfl (l' := #[.val (.int p1), .val (.int p2), .val (.int p3), .val (.int p4), .val (.int n), .val (.int r1), .val (.int r3), .unset, .unset, .unset, .unset, .unset, .unset, .unset, .unset, .unset, .unset]) rfl k) ?_
  refine GoW.via (S' := T3.setTop (mkF m 25 #[.val (.int p1), .val (.int p2), .val (.int p3), .val (.int p4), .val (.int n), .val (.int r1), .val (.int r3), .unset, .unset, .unset, .unset, .unset, .unset, .unset, .unset, .unset, .unset] [(.int p1)])) (fun _ k => XS.iloadN X3.here hx rfl (hb hby at_24) rfl k) ?_
  refine GoW.via (S' := T3.setTop (mkF m 26 #[.val (.int p1), .val (.int p2), .val (.int p3), .val (.int p4), .val (.int n), .val (.int r1), .val (.int r3), .unset, .unset, .unset, .unset, .unset, .unset, .unset, .unset, .unset, .unset] [(.int p2), (.int p1)])) (fun _ k => XS.iloadN X3.here hx rfl (hb hby at_25) rfl k) ?_
  refine GoW.via (S' := T3.setTop (mkF m 27 #[.val (.int p1), .val (.int p2), .val (.int p3), .val (.int p4), .val (.int n), .val (.int r1), .val (.int r3), .unset, .unset, .unset, .unset, .unset, .unset, .unset, .unset, .unset, .unset] [(.int (2 : Int32)), (.int p2), (.int p1)])) (fun _ k => XS.iconst X3.here hx rfl (hb hby at_26) k) ?_
  obtain ⟨_, _, ⟨T5, L5, k5, n5⟩, -, X5, ⟨Lc5, hQ5, l5, y5, z5⟩, st5⟩ := Jvm.LawKit.callS X3 hx (y := (⟨"com/example/amendatory/amendatory/ProvisionNameIsSectionPinLaw", "pick", "(III)C"⟩ : MethodName)) hown (mvT hZ (hw _ (List.mem_of_getElem? (i := 1) rfl))) (mvT hZ (hw _ (List.mem_of_getElem? (i := 2) rfl))) (mvT hZ (hw _ (List.mem_of_getElem? (i := 3) rfl))) (mvT hZ (hw _ (List.mem_of_getElem? (i := 4) rfl))) (by decide) (backOf (W := 0) (rm1 l Z a0 hw [] p1 p2 (2 : Int32) h0 n0 Z0) hZ (hw _ (List.mem_of_getElem? (i := 4) rfl)) (hw _ (List.mem_of_getElem? (i := 3) rfl)) (by decide) (by decide)) (g := (mkF m 27 #[.val (.int p1), .val (.int p2), .val (.int p3), .val (.int p4), .val (.int n), .val (.int r1), .val (.int r3), .unset, .unset, .unset, .unset, .unset, .unset, .unset, .unset, .unset, .unset] [(.int (2 : Int32)), (.int p2), (.int p1)])) rfl (by rw [hml]; rfl) (argsL := [(.int p1), (.int p2), (.int (2 : Int32))]) (rest := []) (lenOf pd_12 rfl) rfl (by show 2 * 0 + _ ≤ _; exact Nat.le_of_eq rfl) (hb hby at_27) (fun _ _ => ⟨rfl, e3, (by decide : 0 + 0 ≤ _), (by decide : 0 + 0 ≤ _)⟩)
  dsimp only [Pt.U, Pt.locs, Pt.cells, Pt.slots] at X5 l5 y5 z5 st5 hQ5
  subst l5 y5 z5
  obtain ⟨r5, rfl, N5q, e5, hr5⟩ := hQ5
  have N6 := Fr.app N4 N5q
  refine GoW.via (S' := T5.setTop (mkF m 30 #[.val (.int p1), .val (.int p2), .val (.int p3), .val (.int p4), .val (.int n), .val (.int r1), .val (.int r3), .unset, .unset, .unset, .unset, .unset, .unset, .unset, .unset, .unset, .unset] [(.int r5)])) (fun _ k => st5 _ k) ?_
  refine GoW.via (S' := T5.setTop (mkF m 32 #[.val (.int p1), .val (.int p2), .val (.int p3), .val (.int p4), .val (.int n), .val (.int r1), .val (.int r3), .val (.int r5), .unset, .unset, .unset, .unset, .unset, .unset, .unset, .unset, .unset] [])) (fun _ k => XS.istore X5.here hx rfl (hb hby at_30) rfl (l' := #[.val (.int p1), .val (.int p2), .val (.int p3), .val (.int p4), .val (.int n), .val (.int r1), .val (.int r3), .val (.int r5), .unset, .unset, .unset, .unset, .unset, .unset, .unset, .unset, .unset]) rfl k) ?_
  refine GoW.via (S' := T5.setTop (mkF m 33 #[.val (.int p1), .val (.int p2), .val (.int p3), .val (.int p4), .val (.int n), .val (.int r1), .val (.int r3), .val (.int r5), .unset, .unset, .unset, .unset, .unset, .unset, .unset, .unset, .unset] [(.int p1)])) (fun _ k => XS.iloadN X5.here hx rfl (hb hby at_32) rfl k) ?_
  refine GoW.via (S' := T5.setTop (mkF m 34 #[.val (.int p1), .val (.int p2), .val (.int p3), .val (.int p4), .val (.int n), .val (.int r1), .val (.int r3), .val (.int r5), .unset, .unset, .unset, .unset, .unset, .unset, .unset, .unset, .unset] [(.int p2), (.int p1)])) (fun _ k => XS.iloadN X5.here hx rfl (hb hby at_33) rfl k) ?_
  refine GoW.via (S' := T5.setTop (mkF m 35 #[.val (.int p1), .val (.int p2), .val (.int p3), .val (.int p4), .val (.int n), .val (.int r1), .val (.int r3), .val (.int r5), .unset, .unset, .unset, .unset, .unset, .unset, .unset, .unset, .unset] [(.int (3 : Int32)), (.int p2), (.int p1)])) (fun _ k => XS.iconst X5.here hx rfl (hb hby at_34) k) ?_
  obtain ⟨_, _, ⟨T7, L7, k7, n7⟩, -, X7, ⟨Lc7, hQ7, l7, y7, z7⟩, st7⟩ := Jvm.LawKit.callS X5 hx (y := (⟨"com/example/amendatory/amendatory/ProvisionNameIsSectionPinLaw", "pick", "(III)C"⟩ : MethodName)) hown (mvT hZ (hw _ (List.mem_of_getElem? (i := 1) rfl))) (mvT hZ (hw _ (List.mem_of_getElem? (i := 2) rfl))) (mvT hZ (hw _ (List.mem_of_getElem? (i := 3) rfl))) (mvT hZ (hw _ (List.mem_of_getElem? (i := 4) rfl))) (by decide) (backOf (W := 0) (rm1 l Z a0 hw [] p1 p2 (3 : Int32) h0 n0 Z0) hZ (hw _ (List.mem_of_getElem? (i := 4) rfl)) (hw _ (List.mem_of_getElem? (i := 3) rfl)) (by decide) (by decide)) (g := (mkF m 35 #[.val (.int p1), .val (.int p2), .val (.int p3), .val (.int p4), .val (.int n), .val (.int r1), .val (.int r3), .val (.int r5), .unset, .unset, .unset, .unset, .unset, .unset, .unset, .unset, .unset] [(.int (3 : Int32)), (.int p2), (.int p1)])) rfl (by rw [hml]; rfl) (argsL := [(.int p1), (.int p2), (.int (3 : Int32))]) (rest := []) (lenOf pd_12 rfl) rfl (by show 2 * 0 + _ ≤ _; exact Nat.le_of_eq rfl) (hb hby at_35) (fun _ _ => ⟨rfl, e5, (by decide : 0 + 0 ≤ _), (by decide : 0 + 0 ≤ _)⟩)
  dsimp only [Pt.U, Pt.locs, Pt.cells, Pt.slots] at X7 l7 y7 z7 st7 hQ7
  subst l7 y7 z7
  obtain ⟨r7, rfl, N7q, e7, hr7⟩ := hQ7
  have N8 := Fr.app N6 N7q
  refine GoW.via (S' := T7.setTop (mkF m 38 #[.val (.int p1), .val (.int p2), .val (.int p3), .val (.int p4), .val (.int n), .val (.int r1), .val (.int r3), .val (.int r5), .unset, .unset, .unset, .unset, .unset, .unset, .unset, .unset, .unset] [(.int r7)])) (fun _ k => st7 _ k) ?_
  refine GoW.via (S' := T7.setTop (mkF m 40 #[.val (.int p1), .val (.int p2), .val (.int p3), .val (.int p4), .val (.int n), .val (.int r1), .val (.int r3), .val (.int r5), .val (.int r7), .unset, .unset, .unset, .unset, .unset, .unset, .unset, .unset] [])) (fun _ k => XS.istore X7.here hx rfl (hb hby at_38) rfl (l' := #[.val (.int p1), .val (.int p2), .val (.int p3), .val (.int p4), .val (.int n), .val (.int r1), .val (.int r3), .val (.int r5), .val (.int r7), .unset, .unset, .unset, .unset, .unset, .unset, .unset, .unset]) rfl k) ?_
  refine GoW.via (S' := T7.setTop (mkF m 42 #[.val (.int p1), .val (.int p2), .val (.int p3), .val (.int p4), .val (.int n), .val (.int r1), .val (.int r3), .val (.int r5), .val (.int r7), .unset, .unset, .unset, .unset, .unset, .unset, .unset, .unset] [(.int n)])) (fun _ k => XS.iload X7.here hx rfl (hb hby at_40) rfl k) ?_
  refine GoW.via (S' := T7.setTop (mkF m 44 #[.val (.int p1), .val (.int p2), .val (.int p3), .val (.int p4), .val (.int n), .val (.int r1), .val (.int r3), .val (.int r5), .val (.int r7), .unset, .unset, .unset, .unset, .unset, .unset, .unset, .unset] [(.int r1), (.int n)])) (fun _ k => XS.iload X7.here hx rfl (hb hby at_42) rfl k) ?_
  refine GoW.via (S' := T7.setTop (mkF m 46 #[.val (.int p1), .val (.int p2), .val (.int p3), .val (.int p4), .val (.int n), .val (.int r1), .val (.int r3), .val (.int r5), .val (.int r7), .unset, .unset, .unset, .unset, .unset, .unset, .unset, .unset] [(.int r3), (.int r1), (.int n)])) (fun _ k => XS.iload X7.here hx rfl (hb hby at_44) rfl k) ?_
  refine GoW.via (S' := T7.setTop (mkF m 48 #[.val (.int p1), .val (.int p2), .val (.int p3), .val (.int p4), .val (.int n), .val (.int r1), .val (.int r3), .val (.int r5), .val (.int r7), .unset, .unset, .unset, .unset, .unset, .unset, .unset, .unset] [(.int r5), (.int r3), (.int r1), (.int n)])) (fun _ k => XS.iload X7.here hx rfl (hb hby at_46) rfl k) ?_
  refine GoW.via (S' := T7.setTop (mkF m 50 #[.val (.int p1), .val (.int p2), .val (.int p3), .val (.int p4), .val (.int n), .val (.int r1), .val (.int r3), .val (.int r5), .val (.int r7), .unset, .unset, .unset, .unset, .unset, .unset, .unset, .unset] [(.int r7), (.int r5), (.int r3), (.int r1), (.int n)])) (fun _ k => XS.iload X7.here hx rfl (hb hby at_48) rfl k) ?_
  rcases Decidable.em (n = (0 : Int32)) with hn0 | hn0
  · obtain ⟨_, _, ⟨T9, L9, k9, n9⟩, -, X9, hs9, hg9, ⟨Lc9, hQ9, l9, y9, z9⟩, st9⟩ := Jvm.RoadKit.callSS X7 hx (y := (⟨"com/example/amendatory/amendatory/ProvisionNameIsSectionPinLaw", "make", "(ICCCC)Ljava/lang/String;"⟩ : MethodName)) hown (mvT hZ (hw _ (List.mem_of_getElem? (i := 5) rfl))) (mvT hZ (hw _ (List.mem_of_getElem? (i := 6) rfl))) (mvT hZ (hw _ (List.mem_of_getElem? (i := 3) rfl))) (mvT hZ (hw _ (List.mem_of_getElem? (i := 7) rfl))) (by decide) (own_backOfS (W := 0) (rm2z l Z a0 hw [] n r1 r3 r5 r7 h0 n0 Z0 X00 hn0 hch hcw) hZ hI (hw _ (List.mem_of_getElem? (i := 7) rfl)) (hw _ (List.mem_of_getElem? (i := 3) rfl)) (by decide) (by decide)) (g := (mkF m 50 #[.val (.int p1), .val (.int p2), .val (.int p3), .val (.int p4), .val (.int n), .val (.int r1), .val (.int r3), .val (.int r5), .val (.int r7), .unset, .unset, .unset, .unset, .unset, .unset, .unset, .unset] [(.int r7), (.int r5), (.int r3), (.int r1), (.int n)])) rfl (by rw [hml]; rfl) (argsL := [(.int n), (.int r1), (.int r3), (.int r5), (.int r7)]) (rest := []) (lenOf pd_13 rfl) rfl (by show 2 * 0 + _ ≤ _; exact Nat.le_of_eq rfl) (hb hby at_50) (fun _ _ => ⟨rfl, e7, (by decide : 0 + 2 ≤ _), (by decide : 0 + 4 ≤ _)⟩)
    dsimp only [Pt.U, Pt.locs, Pt.cells, Pt.slots] at X9 l9 y9 z9 st9 hQ9 hs9 hg9
    subst l9 y9 z9
    have hS9 := foldS hS0 (by rw [e7]; exact hk0) hs9 hg9
    have hZ : Z.Warmed39 (s.setVm T9.vm).vm := State.Warmed39.trans (t := s.setVm s.vm) hZ hs9.1
    have hown : (s.setVm T9.vm).vm.findClass "com/example/amendatory/amendatory/ProvisionNameIsSectionPinLaw" = some m.cls := by rw [show (s.setVm T9.vm).vm = T9.vm from rfl, hs9.1.alike.findClass]; exact hown
    obtain ⟨r9, t9, rfl, N9q, K9, S9⟩ := hQ9
    have N10 := Fr.app N8 N9q
    have f11 := X00.keep K9 all0
    have z12 := Nat.le_trans Z0 K9.1
    refine GoW.via (S' := T9.setTop (mkF m 53 #[.val (.int p1), .val (.int p2), .val (.int p3), .val (.int p4), .val (.int n), .val (.int r1), .val (.int r3), .val (.int r5), .val (.int r7), .unset, .unset, .unset, .unset, .unset, .unset, .unset, .unset] [(.ref r9)])) (fun _ k => st9.trans k) ?_
    refine GoW.via (S' := T9.setTop (mkF m 55 #[.val (.int p1), .val (.int p2), .val (.int p3), .val (.int p4), .val (.int n), .val (.int r1), .val (.int r3), .val (.int r5), .val (.int r7), .val (.ref r9), .unset, .unset, .unset, .unset, .unset, .unset, .unset] [])) (fun _ k => XS.astore X9.here hx rfl (hb hby at_53) rfl rfl (l' := #[.val (.int p1), .val (.int p2), .val (.int p3), .val (.int p4), .val (.int n), .val (.int r1), .val (.int r3), .val (.int r5), .val (.int r7), .val (.ref r9), .unset, .unset, .unset, .unset, .unset, .unset, .unset]) rfl k) ?_
    suffices J74 : ∀ (wc : Int32) (hwc : own_ch wc), GoW p e below s (Q0 Z p1 p2 p3 p4 G1 h0 n0) room_1.cells room_1.slots (T9.setTop (mkF m 74 #[.val (.int p1), .val (.int p2), .val (.int p3), .val (.int p4), .val (.int n), .val (.int r1), .val (.int r3), .val (.int r5), .val (.int r7), .val (.ref r9), .unset, .unset, .unset, .unset, .unset, .unset, .unset] [(.int wc)])) by
      refine GoW.via (S' := T9.setTop (mkF m 56 #[.val (.int p1), .val (.int p2), .val (.int p3), .val (.int p4), .val (.int n), .val (.int r1), .val (.int r3), .val (.int r5), .val (.int r7), .val (.ref r9), .unset, .unset, .unset, .unset, .unset, .unset, .unset] [(.int p2)])) (fun _ k => XS.iloadN X9.here hx rfl (hb hby at_55) rfl k) ?_
      refine GoW.via (S' := T9.setTop (mkF m 57 #[.val (.int p1), .val (.int p2), .val (.int p3), .val (.int p4), .val (.int n), .val (.int r1), .val (.int r3), .val (.int r5), .val (.int r7), .val (.ref r9), .unset, .unset, .unset, .unset, .unset, .unset, .unset] [(.int (4 : Int32)), (.int p2)])) (fun _ k => XS.iconst X9.here hx rfl (hb hby at_56) k) ?_
      refine GoW.via (S' := T9.setTop (mkF m 58 #[.val (.int p1), .val (.int p2), .val (.int p3), .val (.int p4), .val (.int n), .val (.int r1), .val (.int r3), .val (.int r5), .val (.int r7), .val (.ref r9), .unset, .unset, .unset, .unset, .unset, .unset, .unset] [(.int ((p2.toUInt32 >>> ((4 : Int32) &&& 31).toUInt32).toInt32))])) (fun _ k => XS.iushr X9.here hx rfl (hb hby at_57) rfl k) ?_
      refine GoW.via (S' := T9.setTop (mkF m 59 #[.val (.int p1), .val (.int p2), .val (.int p3), .val (.int p4), .val (.int n), .val (.int r1), .val (.int r3), .val (.int r5), .val (.int r7), .val (.ref r9), .unset, .unset, .unset, .unset, .unset, .unset, .unset] [(.int (1 : Int32)), (.int ((p2.toUInt32 >>> ((4 : Int32) &&& 31).toUInt32).toInt32))])) (fun _ k => XS.iconst X9.here hx rfl (hb hby at_58) k) ?_
      refine GoW.via (S' := T9.setTop (mkF m 60 #[.val (.int p1), .val (.int p2), .val (.int p3), .val (.int p4), .val (.int n), .val (.int r1), .val (.int r3), .val (.int r5), .val (.int r7), .val (.ref r9), .unset, .unset, .unset, .unset, .unset, .unset, .unset] [(.int (((p2.toUInt32 >>> ((4 : Int32) &&& 31).toUInt32).toInt32) &&& (1 : Int32)))])) (fun _ k => XS.iand X9.here hx rfl (hb hby at_59) rfl k) ?_
      rcases Decidable.em ((((p2.toUInt32 >>> ((4 : Int32) &&& 31).toUInt32).toInt32) &&& (1 : Int32)) = (0 : Int32)) with hc60 | hc60
      · refine GoW.via (S' := T9.setTop (mkF m 68 #[.val (.int p1), .val (.int p2), .val (.int p3), .val (.int p4), .val (.int n), .val (.int r1), .val (.int r3), .val (.int r5), .val (.int r7), .val (.ref r9), .unset, .unset, .unset, .unset, .unset, .unset, .unset] [])) (fun _ k => XS.ifYes X9.here hx rfl (pc0 := 60) (pc' := 68) rfl (hb hby at_60) rfl ((if0 _ _).trans (teq hc60).1) (by decide) (by decide) k) ?_
        refine GoW.via (S' := T9.setTop (mkF m 69 #[.val (.int p1), .val (.int p2), .val (.int p3), .val (.int p4), .val (.int n), .val (.int r1), .val (.int r3), .val (.int r5), .val (.int r7), .val (.ref r9), .unset, .unset, .unset, .unset, .unset, .unset, .unset] [(.int p4)])) (fun _ k => XS.iloadN X9.here hx rfl (hb hby at_68) rfl k) ?_
        refine GoW.via (S' := T9.setTop (mkF m 72 #[.val (.int p1), .val (.int p2), .val (.int p3), .val (.int p4), .val (.int n), .val (.int r1), .val (.int r3), .val (.int r5), .val (.int r7), .val (.ref r9), .unset, .unset, .unset, .unset, .unset, .unset, .unset] [(.int (255 : Int32)), (.int p4)])) (fun _ k => XS.sipush X9.here hx rfl (hb hby at_69) k) ?_
        refine GoW.via (S' := T9.setTop (mkF m 73 #[.val (.int p1), .val (.int p2), .val (.int p3), .val (.int p4), .val (.int n), .val (.int r1), .val (.int r3), .val (.int r5), .val (.int r7), .val (.ref r9), .unset, .unset, .unset, .unset, .unset, .unset, .unset] [(.int (p4 &&& (255 : Int32)))])) (fun _ k => XS.iand X9.here hx rfl (hb hby at_72) rfl k) ?_
        refine GoW.via (S' := T9.setTop (mkF m 74 #[.val (.int p1), .val (.int p2), .val (.int p3), .val (.int p4), .val (.int n), .val (.int r1), .val (.int r3), .val (.int r5), .val (.int r7), .val (.ref r9), .unset, .unset, .unset, .unset, .unset, .unset, .unset] [(.int ((p4 &&& (255 : Int32)).toUInt32.toUInt16.toUInt32.toInt32))])) (fun _ k => XS.i2c X9.here hx rfl (hb hby at_73) rfl k) ?_
        exact J74 _ (own_chL _)
      · refine GoW.via (S' := T9.setTop (mkF m 63 #[.val (.int p1), .val (.int p2), .val (.int p3), .val (.int p4), .val (.int n), .val (.int r1), .val (.int r3), .val (.int r5), .val (.int r7), .val (.ref r9), .unset, .unset, .unset, .unset, .unset, .unset, .unset] [])) (fun _ k => XS.ifNo X9.here hx rfl (hb hby at_60) rfl ((if0 _ _).trans (feq hc60).1) k) ?_
        refine GoW.via (S' := T9.setTop (mkF m 65 #[.val (.int p1), .val (.int p2), .val (.int p3), .val (.int p4), .val (.int n), .val (.int r1), .val (.int r3), .val (.int r5), .val (.int r7), .val (.ref r9), .unset, .unset, .unset, .unset, .unset, .unset, .unset] [(.int (46 : Int32))])) (fun _ k => XS.bipush X9.here hx rfl (hb hby at_63) k) ?_
        refine GoW.via (S' := T9.setTop (mkF m 74 #[.val (.int p1), .val (.int p2), .val (.int p3), .val (.int p4), .val (.int n), .val (.int r1), .val (.int r3), .val (.int r5), .val (.int r7), .val (.ref r9), .unset, .unset, .unset, .unset, .unset, .unset, .unset] [(.int (46 : Int32))])) (fun _ k => XS.goto X9.here hx rfl (pc0 := 65) (pc' := 74) rfl (hb hby at_65) (by decide) (by decide) k) ?_
        exact J74 _ own_46
    intro wc hwc
    refine GoW.via (S' := T9.setTop (mkF m 76 #[.val (.int p1), .val (.int p2), .val (.int p3), .val (.int p4), .val (.int n), .val (.int r1), .val (.int r3), .val (.int r5), .val (.int r7), .val (.ref r9), .val (.int wc), .unset, .unset, .unset, .unset, .unset, .unset] [])) (fun _ k => XS.istore X9.here hx rfl (hb hby at_74) rfl (l' := #[.val (.int p1), .val (.int p2), .val (.int p3), .val (.int p4), .val (.int n), .val (.int r1), .val (.int r3), .val (.int r5), .val (.int r7), .val (.ref r9), .val (.int wc), .unset, .unset, .unset, .unset, .unset, .unset]) rfl k) ?_
    suffices J98 : ∀ (lc : Int32) (hlc : own_ch lc), GoW p e below s (Q0 Z p1 p2 p3 p4 G1 h0 n0) room_1.cells room_1.slots (T9.setTop (mkF m 98 #[.val (.int p1), .val (.int p2), .val (.int p3), .val (.int p4), .val (.int n), .val (.int r1), .val (.int r3), .val (.int r5), .val (.int r7), .val (.ref r9), .val (.int wc), .unset, .unset, .unset, .unset, .unset, .unset] [(.int lc)])) by
      refine GoW.via (S' := T9.setTop (mkF m 77 #[.val (.int p1), .val (.int p2), .val (.int p3), .val (.int p4), .val (.int n), .val (.int r1), .val (.int r3), .val (.int r5), .val (.int r7), .val (.ref r9), .val (.int wc), .unset, .unset, .unset, .unset, .unset, .unset] [(.int p2)])) (fun _ k => XS.iloadN X9.here hx rfl (hb hby at_76) rfl k) ?_
      refine GoW.via (S' := T9.setTop (mkF m 78 #[.val (.int p1), .val (.int p2), .val (.int p3), .val (.int p4), .val (.int n), .val (.int r1), .val (.int r3), .val (.int r5), .val (.int r7), .val (.ref r9), .val (.int wc), .unset, .unset, .unset, .unset, .unset, .unset] [(.int (5 : Int32)), (.int p2)])) (fun _ k => XS.iconst X9.here hx rfl (hb hby at_77) k) ?_
      refine GoW.via (S' := T9.setTop (mkF m 79 #[.val (.int p1), .val (.int p2), .val (.int p3), .val (.int p4), .val (.int n), .val (.int r1), .val (.int r3), .val (.int r5), .val (.int r7), .val (.ref r9), .val (.int wc), .unset, .unset, .unset, .unset, .unset, .unset] [(.int ((p2.toUInt32 >>> ((5 : Int32) &&& 31).toUInt32).toInt32))])) (fun _ k => XS.iushr X9.here hx rfl (hb hby at_78) rfl k) ?_
      refine GoW.via (S' := T9.setTop (mkF m 80 #[.val (.int p1), .val (.int p2), .val (.int p3), .val (.int p4), .val (.int n), .val (.int r1), .val (.int r3), .val (.int r5), .val (.int r7), .val (.ref r9), .val (.int wc), .unset, .unset, .unset, .unset, .unset, .unset] [(.int (1 : Int32)), (.int ((p2.toUInt32 >>> ((5 : Int32) &&& 31).toUInt32).toInt32))])) (fun _ k => XS.iconst X9.here hx rfl (hb hby at_79) k) ?_
      refine GoW.via (S' := T9.setTop (mkF m 81 #[.val (.int p1), .val (.int p2), .val (.int p3), .val (.int p4), .val (.int n), .val (.int r1), .val (.int r3), .val (.int r5), .val (.int r7), .val (.ref r9), .val (.int wc), .unset, .unset, .unset, .unset, .unset, .unset] [(.int (((p2.toUInt32 >>> ((5 : Int32) &&& 31).toUInt32).toInt32) &&& (1 : Int32)))])) (fun _ k => XS.iand X9.here hx rfl (hb hby at_80) rfl k) ?_
      rcases Decidable.em ((((p2.toUInt32 >>> ((5 : Int32) &&& 31).toUInt32).toInt32) &&& (1 : Int32)) = (0 : Int32)) with hc81 | hc81
      · refine GoW.via (S' := T9.setTop (mkF m 89 #[.val (.int p1), .val (.int p2), .val (.int p3), .val (.int p4), .val (.int n), .val (.int r1), .val (.int r3), .val (.int r5), .val (.int r7), .val (.ref r9), .val (.int wc), .unset, .unset, .unset, .unset, .unset, .unset] [])) (fun _ k => XS.ifYes X9.here hx rfl (pc0 := 81) (pc' := 89) rfl (hb hby at_81) rfl ((if0 _ _).trans (teq hc81).1) (by decide) (by decide) k) ?_
        refine GoW.via (S' := T9.setTop (mkF m 90 #[.val (.int p1), .val (.int p2), .val (.int p3), .val (.int p4), .val (.int n), .val (.int r1), .val (.int r3), .val (.int r5), .val (.int r7), .val (.ref r9), .val (.int wc), .unset, .unset, .unset, .unset, .unset, .unset] [(.int p4)])) (fun _ k => XS.iloadN X9.here hx rfl (hb hby at_89) rfl k) ?_
        refine GoW.via (S' := T9.setTop (mkF m 92 #[.val (.int p1), .val (.int p2), .val (.int p3), .val (.int p4), .val (.int n), .val (.int r1), .val (.int r3), .val (.int r5), .val (.int r7), .val (.ref r9), .val (.int wc), .unset, .unset, .unset, .unset, .unset, .unset] [(.int (8 : Int32)), (.int p4)])) (fun _ k => XS.bipush X9.here hx rfl (hb hby at_90) k) ?_
        refine GoW.via (S' := T9.setTop (mkF m 93 #[.val (.int p1), .val (.int p2), .val (.int p3), .val (.int p4), .val (.int n), .val (.int r1), .val (.int r3), .val (.int r5), .val (.int r7), .val (.ref r9), .val (.int wc), .unset, .unset, .unset, .unset, .unset, .unset] [(.int ((p4.toUInt32 >>> ((8 : Int32) &&& 31).toUInt32).toInt32))])) (fun _ k => XS.iushr X9.here hx rfl (hb hby at_92) rfl k) ?_
        refine GoW.via (S' := T9.setTop (mkF m 96 #[.val (.int p1), .val (.int p2), .val (.int p3), .val (.int p4), .val (.int n), .val (.int r1), .val (.int r3), .val (.int r5), .val (.int r7), .val (.ref r9), .val (.int wc), .unset, .unset, .unset, .unset, .unset, .unset] [(.int (255 : Int32)), (.int ((p4.toUInt32 >>> ((8 : Int32) &&& 31).toUInt32).toInt32))])) (fun _ k => XS.sipush X9.here hx rfl (hb hby at_93) k) ?_
        refine GoW.via (S' := T9.setTop (mkF m 97 #[.val (.int p1), .val (.int p2), .val (.int p3), .val (.int p4), .val (.int n), .val (.int r1), .val (.int r3), .val (.int r5), .val (.int r7), .val (.ref r9), .val (.int wc), .unset, .unset, .unset, .unset, .unset, .unset] [(.int (((p4.toUInt32 >>> ((8 : Int32) &&& 31).toUInt32).toInt32) &&& (255 : Int32)))])) (fun _ k => XS.iand X9.here hx rfl (hb hby at_96) rfl k) ?_
        refine GoW.via (S' := T9.setTop (mkF m 98 #[.val (.int p1), .val (.int p2), .val (.int p3), .val (.int p4), .val (.int n), .val (.int r1), .val (.int r3), .val (.int r5), .val (.int r7), .val (.ref r9), .val (.int wc), .unset, .unset, .unset, .unset, .unset, .unset] [(.int ((((p4.toUInt32 >>> ((8 : Int32) &&& 31).toUInt32).toInt32) &&& (255 : Int32)).toUInt32.toUInt16.toUInt32.toInt32))])) (fun _ k => XS.i2c X9.here hx rfl (hb hby at_97) rfl k) ?_
        exact J98 _ (own_chL _)
      · refine GoW.via (S' := T9.setTop (mkF m 84 #[.val (.int p1), .val (.int p2), .val (.int p3), .val (.int p4), .val (.int n), .val (.int r1), .val (.int r3), .val (.int r5), .val (.int r7), .val (.ref r9), .val (.int wc), .unset, .unset, .unset, .unset, .unset, .unset] [])) (fun _ k => XS.ifNo X9.here hx rfl (hb hby at_81) rfl ((if0 _ _).trans (feq hc81).1) k) ?_
        refine GoW.via (S' := T9.setTop (mkF m 86 #[.val (.int p1), .val (.int p2), .val (.int p3), .val (.int p4), .val (.int n), .val (.int r1), .val (.int r3), .val (.int r5), .val (.int r7), .val (.ref r9), .val (.int wc), .unset, .unset, .unset, .unset, .unset, .unset] [(.int (46 : Int32))])) (fun _ k => XS.bipush X9.here hx rfl (hb hby at_84) k) ?_
        refine GoW.via (S' := T9.setTop (mkF m 98 #[.val (.int p1), .val (.int p2), .val (.int p3), .val (.int p4), .val (.int n), .val (.int r1), .val (.int r3), .val (.int r5), .val (.int r7), .val (.ref r9), .val (.int wc), .unset, .unset, .unset, .unset, .unset, .unset] [(.int (46 : Int32))])) (fun _ k => XS.goto X9.here hx rfl (pc0 := 86) (pc' := 98) rfl (hb hby at_86) (by decide) (by decide) k) ?_
        exact J98 _ own_46
    intro lc hlc
    refine GoW.via (S' := T9.setTop (mkF m 100 #[.val (.int p1), .val (.int p2), .val (.int p3), .val (.int p4), .val (.int n), .val (.int r1), .val (.int r3), .val (.int r5), .val (.int r7), .val (.ref r9), .val (.int wc), .val (.int lc), .unset, .unset, .unset, .unset, .unset] [])) (fun _ k => XS.istore X9.here hx rfl (hb hby at_98) rfl (l' := #[.val (.int p1), .val (.int p2), .val (.int p3), .val (.int p4), .val (.int n), .val (.int r1), .val (.int r3), .val (.int r5), .val (.int r7), .val (.ref r9), .val (.int wc), .val (.int lc), .unset, .unset, .unset, .unset, .unset]) rfl k) ?_
    refine GoW.via (S' := T9.setTop (mkF m 102 #[.val (.int p1), .val (.int p2), .val (.int p3), .val (.int p4), .val (.int n), .val (.int r1), .val (.int r3), .val (.int r5), .val (.int r7), .val (.ref r9), .val (.int wc), .val (.int lc), .unset, .unset, .unset, .unset, .unset] [(.int wc)])) (fun _ k => XS.iload X9.here hx rfl (hb hby at_100) rfl k) ?_
    obtain ⟨_, _, ⟨T13, L13, k13, n13⟩, -, X13, ⟨Lc13, hQ13, l13, y13, z13⟩, st13⟩ := Jvm.LawKit.callS X9 hx (y := (⟨"java/lang/String", "valueOf", "(C)Ljava/lang/String;"⟩ : MethodName)) hown (mvT hZ (hw _ (List.mem_of_getElem? (i := 38) rfl))) (mvT hZ (hw _ (List.mem_of_getElem? (i := 39) rfl))) (mvT hZ (hw _ (List.mem_of_getElem? (i := 10) rfl))) (mvT hZ (hw _ (List.mem_of_getElem? (i := 40) rfl))) (by decide) (backOf (W := 0) (rm9 l Z a0 hw [] wc G1 T9.heap n0 z12 f11 O2 P5 hwc) hZ (hw _ (List.mem_of_getElem? (i := 40) rfl)) (hw _ (List.mem_of_getElem? (i := 10) rfl)) (by decide) (by decide)) (g := (mkF m 102 #[.val (.int p1), .val (.int p2), .val (.int p3), .val (.int p4), .val (.int n), .val (.int r1), .val (.int r3), .val (.int r5), .val (.int r7), .val (.ref r9), .val (.int wc), .val (.int lc), .unset, .unset, .unset, .unset, .unset] [(.int wc)])) rfl (by rw [hml]; rfl) (argsL := [(.int wc)]) (rest := []) (lenOf pd_14 rfl) rfl (by show 2 * 0 + _ ≤ _; exact Nat.le_of_eq rfl) (hb hby at_102) (fun _ _ => ⟨rfl, rfl, (by decide : 2 + 2 ≤ _), (by decide : 4 + 5 ≤ _)⟩)
    dsimp only [Pt.U, Pt.locs, Pt.cells, Pt.slots] at X13 l13 y13 z13 st13 hQ13
    subst l13 y13 z13
    obtain ⟨r13, rfl, N13q, K13⟩ := hQ13
    have N14 := Fr.app N10 N13q
    have f15 := f11.keep K13 all0
    have f16 := S9.keep K13 nin0 nin0
    have z17 := Nat.le_trans z12 K13.1
    have hk18 := Nat.le_trans (Nat.le_refl _) K13.1
    refine GoW.via (S' := T13.setTop (mkF m 105 #[.val (.int p1), .val (.int p2), .val (.int p3), .val (.int p4), .val (.int n), .val (.int r1), .val (.int r3), .val (.int r5), .val (.int r7), .val (.ref r9), .val (.int wc), .val (.int lc), .unset, .unset, .unset, .unset, .unset] [(.ref r13)])) (fun _ k => st13 _ k) ?_
    refine GoW.via (S' := T13.setTop (mkF m 107 #[.val (.int p1), .val (.int p2), .val (.int p3), .val (.int p4), .val (.int n), .val (.int r1), .val (.int r3), .val (.int r5), .val (.int r7), .val (.ref r9), .val (.int wc), .val (.int lc), .val (.ref r13), .unset, .unset, .unset, .unset] [])) (fun _ k => XS.astore X13.here hx rfl (hb hby at_105) rfl rfl (l' := #[.val (.int p1), .val (.int p2), .val (.int p3), .val (.int p4), .val (.int n), .val (.int r1), .val (.int r3), .val (.int r5), .val (.int r7), .val (.ref r9), .val (.int wc), .val (.int lc), .val (.ref r13), .unset, .unset, .unset, .unset]) rfl k) ?_
    refine GoW.via (S' := T13.setTop (mkF m 109 #[.val (.int p1), .val (.int p2), .val (.int p3), .val (.int p4), .val (.int n), .val (.int r1), .val (.int r3), .val (.int r5), .val (.int r7), .val (.ref r9), .val (.int wc), .val (.int lc), .val (.ref r13), .unset, .unset, .unset, .unset] [(.int lc)])) (fun _ k => XS.iload X13.here hx rfl (hb hby at_107) rfl k) ?_
    obtain ⟨_, _, ⟨T19, L19, k19, n19⟩, -, X19, ⟨Lc19, hQ19, l19, y19, z19⟩, st19⟩ := Jvm.LawKit.callS X13 hx (y := (⟨"java/lang/String", "valueOf", "(C)Ljava/lang/String;"⟩ : MethodName)) hown (mvT hZ (hw _ (List.mem_of_getElem? (i := 38) rfl))) (mvT hZ (hw _ (List.mem_of_getElem? (i := 39) rfl))) (mvT hZ (hw _ (List.mem_of_getElem? (i := 10) rfl))) (mvT hZ (hw _ (List.mem_of_getElem? (i := 40) rfl))) (by decide) (backOf (W := 0) (rm9 l Z a0 hw [] lc G1 T13.heap n0 z17 f15 O2 P5 hlc) hZ (hw _ (List.mem_of_getElem? (i := 40) rfl)) (hw _ (List.mem_of_getElem? (i := 10) rfl)) (by decide) (by decide)) (g := (mkF m 109 #[.val (.int p1), .val (.int p2), .val (.int p3), .val (.int p4), .val (.int n), .val (.int r1), .val (.int r3), .val (.int r5), .val (.int r7), .val (.ref r9), .val (.int wc), .val (.int lc), .val (.ref r13), .unset, .unset, .unset, .unset] [(.int lc)])) rfl (by rw [hml]; rfl) (argsL := [(.int lc)]) (rest := []) (lenOf pd_14 rfl) rfl (by show 2 * 0 + _ ≤ _; exact Nat.le_of_eq rfl) (hb hby at_109) (fun _ _ => ⟨rfl, rfl, (by decide : 4 + 2 ≤ _), (by decide : 9 + 5 ≤ _)⟩)
    dsimp only [Pt.U, Pt.locs, Pt.cells, Pt.slots] at X19 l19 y19 z19 st19 hQ19
    subst l19 y19 z19
    obtain ⟨r19, rfl, N19q, K19⟩ := hQ19
    have N20 := Fr.app N14 N19q
    have f21 := f15.keep K19 all0
    have f22 := f16.keep K19 nin0 nin0
    have z23 := Nat.le_trans z17 K19.1
    have hk24 := Nat.le_trans hk18 K19.1
    refine GoW.via (S' := T19.setTop (mkF m 112 #[.val (.int p1), .val (.int p2), .val (.int p3), .val (.int p4), .val (.int n), .val (.int r1), .val (.int r3), .val (.int r5), .val (.int r7), .val (.ref r9), .val (.int wc), .val (.int lc), .val (.ref r13), .unset, .unset, .unset, .unset] [(.ref r19)])) (fun _ k => st19 _ k) ?_
    refine GoW.via (S' := T19.setTop (mkF m 114 #[.val (.int p1), .val (.int p2), .val (.int p3), .val (.int p4), .val (.int n), .val (.int r1), .val (.int r3), .val (.int r5), .val (.int r7), .val (.ref r9), .val (.int wc), .val (.int lc), .val (.ref r13), .val (.ref r19), .unset, .unset, .unset] [])) (fun _ k => XS.astore X19.here hx rfl (hb hby at_112) rfl rfl (l' := #[.val (.int p1), .val (.int p2), .val (.int p3), .val (.int p4), .val (.int n), .val (.int r1), .val (.int r3), .val (.int r5), .val (.int r7), .val (.ref r9), .val (.int wc), .val (.int lc), .val (.ref r13), .val (.ref r19), .unset, .unset, .unset]) rfl k) ?_
    suffices J170 : ∀ (ex : Int32) (hex : (ex = 1 ∧ 46 ∈ (own_cs n r1 r3 r5 r7)) ∨ (ex = 0 ∧ ¬ 46 ∈ (own_cs n r1 r3 r5 r7))), GoW p e below s (Q0 Z p1 p2 p3 p4 G1 h0 n0) room_1.cells room_1.slots (T19.setTop (mkF m 170 #[.val (.int p1), .val (.int p2), .val (.int p3), .val (.int p4), .val (.int n), .val (.int r1), .val (.int r3), .val (.int r5), .val (.int r7), .val (.ref r9), .val (.int wc), .val (.int lc), .val (.ref r13), .val (.ref r19), .unset, .unset, .unset] [(.int ex)])) by
      refine GoW.via (S' := T19.setTop (mkF m 116 #[.val (.int p1), .val (.int p2), .val (.int p3), .val (.int p4), .val (.int n), .val (.int r1), .val (.int r3), .val (.int r5), .val (.int r7), .val (.ref r9), .val (.int wc), .val (.int lc), .val (.ref r13), .val (.ref r19), .unset, .unset, .unset] [(.int n)])) (fun _ k => XS.iload X19.here hx rfl (hb hby at_114) rfl k) ?_
      rcases Decidable.em ((0 : Int32) < n) with hc116 | hc116
      · refine GoW.via (S' := T19.setTop (mkF m 119 #[.val (.int p1), .val (.int p2), .val (.int p3), .val (.int p4), .val (.int n), .val (.int r1), .val (.int r3), .val (.int r5), .val (.int r7), .val (.ref r9), .val (.int wc), .val (.int lc), .val (.ref r13), .val (.ref r19), .unset, .unset, .unset] [])) (fun _ k => XS.ifNo X19.here hx rfl (hb hby at_116) rfl ((if0 _ _).trans (tlt hc116).2.2.2) k) ?_
        refine GoW.via (S' := T19.setTop (mkF m 121 #[.val (.int p1), .val (.int p2), .val (.int p3), .val (.int p4), .val (.int n), .val (.int r1), .val (.int r3), .val (.int r5), .val (.int r7), .val (.ref r9), .val (.int wc), .val (.int lc), .val (.ref r13), .val (.ref r19), .unset, .unset, .unset] [(.int r1)])) (fun _ k => XS.iload X19.here hx rfl (hb hby at_119) rfl k) ?_
        refine GoW.via (S' := T19.setTop (mkF m 123 #[.val (.int p1), .val (.int p2), .val (.int p3), .val (.int p4), .val (.int n), .val (.int r1), .val (.int r3), .val (.int r5), .val (.int r7), .val (.ref r9), .val (.int wc), .val (.int lc), .val (.ref r13), .val (.ref r19), .unset, .unset, .unset] [(.int (46 : Int32)), (.int r1)])) (fun _ k => XS.bipush X19.here hx rfl (hb hby at_121) k) ?_
        rcases Decidable.em (r1 = (46 : Int32)) with hc123 | hc123
        · refine GoW.via (S' := T19.setTop (mkF m 165 #[.val (.int p1), .val (.int p2), .val (.int p3), .val (.int p4), .val (.int n), .val (.int r1), .val (.int r3), .val (.int r5), .val (.int r7), .val (.ref r9), .val (.int wc), .val (.int lc), .val (.ref r13), .val (.ref r19), .unset, .unset, .unset] [])) (fun _ k => XS.icmpYes X19.here hx rfl (pc0 := 123) (pc' := 165) rfl (hb hby at_123) rfl (teq hc123).1 (by decide) (by decide) k) ?_
          refine GoW.via (S' := T19.setTop (mkF m 166 #[.val (.int p1), .val (.int p2), .val (.int p3), .val (.int p4), .val (.int n), .val (.int r1), .val (.int r3), .val (.int r5), .val (.int r7), .val (.ref r9), .val (.int wc), .val (.int lc), .val (.ref r13), .val (.ref r19), .unset, .unset, .unset] [(.int (1 : Int32))])) (fun _ k => XS.iconst X19.here hx rfl (hb hby at_165) k) ?_
          refine GoW.via (S' := T19.setTop (mkF m 170 #[.val (.int p1), .val (.int p2), .val (.int p3), .val (.int p4), .val (.int n), .val (.int r1), .val (.int r3), .val (.int r5), .val (.int r7), .val (.ref r9), .val (.int wc), .val (.int lc), .val (.ref r13), .val (.ref r19), .unset, .unset, .unset] [(.int (1 : Int32))])) (fun _ k => XS.goto X19.here hx rfl (pc0 := 166) (pc' := 170) rfl (hb hby at_166) (by decide) (by decide) k) ?_
          exact J170 _ (Or.inl ⟨rfl, (own_hd_iff hn).mpr (Or.inl ⟨hc116, hc123⟩)⟩)
        · refine GoW.via (S' := T19.setTop (mkF m 126 #[.val (.int p1), .val (.int p2), .val (.int p3), .val (.int p4), .val (.int n), .val (.int r1), .val (.int r3), .val (.int r5), .val (.int r7), .val (.ref r9), .val (.int wc), .val (.int lc), .val (.ref r13), .val (.ref r19), .unset, .unset, .unset] [])) (fun _ k => XS.icmpNo X19.here hx rfl (hb hby at_123) rfl (feq hc123).1 k) ?_
          refine GoW.via (S' := T19.setTop (mkF m 128 #[.val (.int p1), .val (.int p2), .val (.int p3), .val (.int p4), .val (.int n), .val (.int r1), .val (.int r3), .val (.int r5), .val (.int r7), .val (.ref r9), .val (.int wc), .val (.int lc), .val (.ref r13), .val (.ref r19), .unset, .unset, .unset] [(.int n)])) (fun _ k => XS.iload X19.here hx rfl (hb hby at_126) rfl k) ?_
          refine GoW.via (S' := T19.setTop (mkF m 129 #[.val (.int p1), .val (.int p2), .val (.int p3), .val (.int p4), .val (.int n), .val (.int r1), .val (.int r3), .val (.int r5), .val (.int r7), .val (.ref r9), .val (.int wc), .val (.int lc), .val (.ref r13), .val (.ref r19), .unset, .unset, .unset] [(.int (1 : Int32)), (.int n)])) (fun _ k => XS.iconst X19.here hx rfl (hb hby at_128) k) ?_
          rcases Decidable.em ((1 : Int32) < n) with hc129 | hc129
          · refine GoW.via (S' := T19.setTop (mkF m 132 #[.val (.int p1), .val (.int p2), .val (.int p3), .val (.int p4), .val (.int n), .val (.int r1), .val (.int r3), .val (.int r5), .val (.int r7), .val (.ref r9), .val (.int wc), .val (.int lc), .val (.ref r13), .val (.ref r19), .unset, .unset, .unset] [])) (fun _ k => XS.icmpNo X19.here hx rfl (hb hby at_129) rfl (tlt hc129).2.2.2 k) ?_
            refine GoW.via (S' := T19.setTop (mkF m 134 #[.val (.int p1), .val (.int p2), .val (.int p3), .val (.int p4), .val (.int n), .val (.int r1), .val (.int r3), .val (.int r5), .val (.int r7), .val (.ref r9), .val (.int wc), .val (.int lc), .val (.ref r13), .val (.ref r19), .unset, .unset, .unset] [(.int r3)])) (fun _ k => XS.iload X19.here hx rfl (hb hby at_132) rfl k) ?_
            refine GoW.via (S' := T19.setTop (mkF m 136 #[.val (.int p1), .val (.int p2), .val (.int p3), .val (.int p4), .val (.int n), .val (.int r1), .val (.int r3), .val (.int r5), .val (.int r7), .val (.ref r9), .val (.int wc), .val (.int lc), .val (.ref r13), .val (.ref r19), .unset, .unset, .unset] [(.int (46 : Int32)), (.int r3)])) (fun _ k => XS.bipush X19.here hx rfl (hb hby at_134) k) ?_
            rcases Decidable.em (r3 = (46 : Int32)) with hc136 | hc136
            · refine GoW.via (S' := T19.setTop (mkF m 165 #[.val (.int p1), .val (.int p2), .val (.int p3), .val (.int p4), .val (.int n), .val (.int r1), .val (.int r3), .val (.int r5), .val (.int r7), .val (.ref r9), .val (.int wc), .val (.int lc), .val (.ref r13), .val (.ref r19), .unset, .unset, .unset] [])) (fun _ k => XS.icmpYes X19.here hx rfl (pc0 := 136) (pc' := 165) rfl (hb hby at_136) rfl (teq hc136).1 (by decide) (by decide) k) ?_
              refine GoW.via (S' := T19.setTop (mkF m 166 #[.val (.int p1), .val (.int p2), .val (.int p3), .val (.int p4), .val (.int n), .val (.int r1), .val (.int r3), .val (.int r5), .val (.int r7), .val (.ref r9), .val (.int wc), .val (.int lc), .val (.ref r13), .val (.ref r19), .unset, .unset, .unset] [(.int (1 : Int32))])) (fun _ k => XS.iconst X19.here hx rfl (hb hby at_165) k) ?_
              refine GoW.via (S' := T19.setTop (mkF m 170 #[.val (.int p1), .val (.int p2), .val (.int p3), .val (.int p4), .val (.int n), .val (.int r1), .val (.int r3), .val (.int r5), .val (.int r7), .val (.ref r9), .val (.int wc), .val (.int lc), .val (.ref r13), .val (.ref r19), .unset, .unset, .unset] [(.int (1 : Int32))])) (fun _ k => XS.goto X19.here hx rfl (pc0 := 166) (pc' := 170) rfl (hb hby at_166) (by decide) (by decide) k) ?_
              exact J170 _ (Or.inl ⟨rfl, (own_hd_iff hn).mpr (Or.inr (Or.inl ⟨hc129, hc136⟩))⟩)
            · refine GoW.via (S' := T19.setTop (mkF m 139 #[.val (.int p1), .val (.int p2), .val (.int p3), .val (.int p4), .val (.int n), .val (.int r1), .val (.int r3), .val (.int r5), .val (.int r7), .val (.ref r9), .val (.int wc), .val (.int lc), .val (.ref r13), .val (.ref r19), .unset, .unset, .unset] [])) (fun _ k => XS.icmpNo X19.here hx rfl (hb hby at_136) rfl (feq hc136).1 k) ?_
              refine GoW.via (S' := T19.setTop (mkF m 141 #[.val (.int p1), .val (.int p2), .val (.int p3), .val (.int p4), .val (.int n), .val (.int r1), .val (.int r3), .val (.int r5), .val (.int r7), .val (.ref r9), .val (.int wc), .val (.int lc), .val (.ref r13), .val (.ref r19), .unset, .unset, .unset] [(.int n)])) (fun _ k => XS.iload X19.here hx rfl (hb hby at_139) rfl k) ?_
              refine GoW.via (S' := T19.setTop (mkF m 142 #[.val (.int p1), .val (.int p2), .val (.int p3), .val (.int p4), .val (.int n), .val (.int r1), .val (.int r3), .val (.int r5), .val (.int r7), .val (.ref r9), .val (.int wc), .val (.int lc), .val (.ref r13), .val (.ref r19), .unset, .unset, .unset] [(.int (2 : Int32)), (.int n)])) (fun _ k => XS.iconst X19.here hx rfl (hb hby at_141) k) ?_
              rcases Decidable.em ((2 : Int32) < n) with hc142 | hc142
              · refine GoW.via (S' := T19.setTop (mkF m 145 #[.val (.int p1), .val (.int p2), .val (.int p3), .val (.int p4), .val (.int n), .val (.int r1), .val (.int r3), .val (.int r5), .val (.int r7), .val (.ref r9), .val (.int wc), .val (.int lc), .val (.ref r13), .val (.ref r19), .unset, .unset, .unset] [])) (fun _ k => XS.icmpNo X19.here hx rfl (hb hby at_142) rfl (tlt hc142).2.2.2 k) ?_
                refine GoW.via (S' := T19.setTop (mkF m 147 #[.val (.int p1), .val (.int p2), .val (.int p3), .val (.int p4), .val (.int n), .val (.int r1), .val (.int r3), .val (.int r5), .val (.int r7), .val (.ref r9), .val (.int wc), .val (.int lc), .val (.ref r13), .val (.ref r19), .unset, .unset, .unset] [(.int r5)])) (fun _ k => XS.iload X19.here hx rfl (hb hby at_145) rfl k) ?_
                refine GoW.via (S' := T19.setTop (mkF m 149 #[.val (.int p1), .val (.int p2), .val (.int p3), .val (.int p4), .val (.int n), .val (.int r1), .val (.int r3), .val (.int r5), .val (.int r7), .val (.ref r9), .val (.int wc), .val (.int lc), .val (.ref r13), .val (.ref r19), .unset, .unset, .unset] [(.int (46 : Int32)), (.int r5)])) (fun _ k => XS.bipush X19.here hx rfl (hb hby at_147) k) ?_
                rcases Decidable.em (r5 = (46 : Int32)) with hc149 | hc149
                · refine GoW.via (S' := T19.setTop (mkF m 165 #[.val (.int p1), .val (.int p2), .val (.int p3), .val (.int p4), .val (.int n), .val (.int r1), .val (.int r3), .val (.int r5), .val (.int r7), .val (.ref r9), .val (.int wc), .val (.int lc), .val (.ref r13), .val (.ref r19), .unset, .unset, .unset] [])) (fun _ k => XS.icmpYes X19.here hx rfl (pc0 := 149) (pc' := 165) rfl (hb hby at_149) rfl (teq hc149).1 (by decide) (by decide) k) ?_
                  refine GoW.via (S' := T19.setTop (mkF m 166 #[.val (.int p1), .val (.int p2), .val (.int p3), .val (.int p4), .val (.int n), .val (.int r1), .val (.int r3), .val (.int r5), .val (.int r7), .val (.ref r9), .val (.int wc), .val (.int lc), .val (.ref r13), .val (.ref r19), .unset, .unset, .unset] [(.int (1 : Int32))])) (fun _ k => XS.iconst X19.here hx rfl (hb hby at_165) k) ?_
                  refine GoW.via (S' := T19.setTop (mkF m 170 #[.val (.int p1), .val (.int p2), .val (.int p3), .val (.int p4), .val (.int n), .val (.int r1), .val (.int r3), .val (.int r5), .val (.int r7), .val (.ref r9), .val (.int wc), .val (.int lc), .val (.ref r13), .val (.ref r19), .unset, .unset, .unset] [(.int (1 : Int32))])) (fun _ k => XS.goto X19.here hx rfl (pc0 := 166) (pc' := 170) rfl (hb hby at_166) (by decide) (by decide) k) ?_
                  exact J170 _ (Or.inl ⟨rfl, (own_hd_iff hn).mpr (Or.inr (Or.inr (Or.inl ⟨hc142, hc149⟩)))⟩)
                · refine GoW.via (S' := T19.setTop (mkF m 152 #[.val (.int p1), .val (.int p2), .val (.int p3), .val (.int p4), .val (.int n), .val (.int r1), .val (.int r3), .val (.int r5), .val (.int r7), .val (.ref r9), .val (.int wc), .val (.int lc), .val (.ref r13), .val (.ref r19), .unset, .unset, .unset] [])) (fun _ k => XS.icmpNo X19.here hx rfl (hb hby at_149) rfl (feq hc149).1 k) ?_
                  refine GoW.via (S' := T19.setTop (mkF m 154 #[.val (.int p1), .val (.int p2), .val (.int p3), .val (.int p4), .val (.int n), .val (.int r1), .val (.int r3), .val (.int r5), .val (.int r7), .val (.ref r9), .val (.int wc), .val (.int lc), .val (.ref r13), .val (.ref r19), .unset, .unset, .unset] [(.int n)])) (fun _ k => XS.iload X19.here hx rfl (hb hby at_152) rfl k) ?_
                  refine GoW.via (S' := T19.setTop (mkF m 155 #[.val (.int p1), .val (.int p2), .val (.int p3), .val (.int p4), .val (.int n), .val (.int r1), .val (.int r3), .val (.int r5), .val (.int r7), .val (.ref r9), .val (.int wc), .val (.int lc), .val (.ref r13), .val (.ref r19), .unset, .unset, .unset] [(.int (3 : Int32)), (.int n)])) (fun _ k => XS.iconst X19.here hx rfl (hb hby at_154) k) ?_
                  rcases Decidable.em ((3 : Int32) < n) with hc155 | hc155
                  · refine GoW.via (S' := T19.setTop (mkF m 158 #[.val (.int p1), .val (.int p2), .val (.int p3), .val (.int p4), .val (.int n), .val (.int r1), .val (.int r3), .val (.int r5), .val (.int r7), .val (.ref r9), .val (.int wc), .val (.int lc), .val (.ref r13), .val (.ref r19), .unset, .unset, .unset] [])) (fun _ k => XS.icmpNo X19.here hx rfl (hb hby at_155) rfl (tlt hc155).2.2.2 k) ?_
                    refine GoW.via (S' := T19.setTop (mkF m 160 #[.val (.int p1), .val (.int p2), .val (.int p3), .val (.int p4), .val (.int n), .val (.int r1), .val (.int r3), .val (.int r5), .val (.int r7), .val (.ref r9), .val (.int wc), .val (.int lc), .val (.ref r13), .val (.ref r19), .unset, .unset, .unset] [(.int r7)])) (fun _ k => XS.iload X19.here hx rfl (hb hby at_158) rfl k) ?_
                    refine GoW.via (S' := T19.setTop (mkF m 162 #[.val (.int p1), .val (.int p2), .val (.int p3), .val (.int p4), .val (.int n), .val (.int r1), .val (.int r3), .val (.int r5), .val (.int r7), .val (.ref r9), .val (.int wc), .val (.int lc), .val (.ref r13), .val (.ref r19), .unset, .unset, .unset] [(.int (46 : Int32)), (.int r7)])) (fun _ k => XS.bipush X19.here hx rfl (hb hby at_160) k) ?_
                    rcases Decidable.em (r7 = (46 : Int32)) with hc162 | hc162
                    · refine GoW.via (S' := T19.setTop (mkF m 165 #[.val (.int p1), .val (.int p2), .val (.int p3), .val (.int p4), .val (.int n), .val (.int r1), .val (.int r3), .val (.int r5), .val (.int r7), .val (.ref r9), .val (.int wc), .val (.int lc), .val (.ref r13), .val (.ref r19), .unset, .unset, .unset] [])) (fun _ k => XS.icmpNo X19.here hx rfl (hb hby at_162) rfl (teq hc162).2 k) ?_
                      refine GoW.via (S' := T19.setTop (mkF m 166 #[.val (.int p1), .val (.int p2), .val (.int p3), .val (.int p4), .val (.int n), .val (.int r1), .val (.int r3), .val (.int r5), .val (.int r7), .val (.ref r9), .val (.int wc), .val (.int lc), .val (.ref r13), .val (.ref r19), .unset, .unset, .unset] [(.int (1 : Int32))])) (fun _ k => XS.iconst X19.here hx rfl (hb hby at_165) k) ?_
                      refine GoW.via (S' := T19.setTop (mkF m 170 #[.val (.int p1), .val (.int p2), .val (.int p3), .val (.int p4), .val (.int n), .val (.int r1), .val (.int r3), .val (.int r5), .val (.int r7), .val (.ref r9), .val (.int wc), .val (.int lc), .val (.ref r13), .val (.ref r19), .unset, .unset, .unset] [(.int (1 : Int32))])) (fun _ k => XS.goto X19.here hx rfl (pc0 := 166) (pc' := 170) rfl (hb hby at_166) (by decide) (by decide) k) ?_
                      exact J170 _ (Or.inl ⟨rfl, (own_hd_iff hn).mpr (Or.inr (Or.inr (Or.inr (⟨hc155, hc162⟩))))⟩)
                    · refine GoW.via (S' := T19.setTop (mkF m 169 #[.val (.int p1), .val (.int p2), .val (.int p3), .val (.int p4), .val (.int n), .val (.int r1), .val (.int r3), .val (.int r5), .val (.int r7), .val (.ref r9), .val (.int wc), .val (.int lc), .val (.ref r13), .val (.ref r19), .unset, .unset, .unset] [])) (fun _ k => XS.icmpYes X19.here hx rfl (pc0 := 162) (pc' := 169) rfl (hb hby at_162) rfl (feq hc162).2 (by decide) (by decide) k) ?_
                      refine GoW.via (S' := T19.setTop (mkF m 170 #[.val (.int p1), .val (.int p2), .val (.int p3), .val (.int p4), .val (.int n), .val (.int r1), .val (.int r3), .val (.int r5), .val (.int r7), .val (.ref r9), .val (.int wc), .val (.int lc), .val (.ref r13), .val (.ref r19), .unset, .unset, .unset] [(.int (0 : Int32))])) (fun _ k => XS.iconst X19.here hx rfl (hb hby at_169) k) ?_
                      exact J170 _ (Or.inr ⟨rfl, fun q => ((own_hd_iff hn).mp q).elim (fun a => hc123 a.2) (fun q => q.elim (fun a => hc136 a.2) (fun q => q.elim (fun a => hc149 a.2) (fun a => hc162 a.2)))⟩)
                  · refine GoW.via (S' := T19.setTop (mkF m 169 #[.val (.int p1), .val (.int p2), .val (.int p3), .val (.int p4), .val (.int n), .val (.int r1), .val (.int r3), .val (.int r5), .val (.int r7), .val (.ref r9), .val (.int wc), .val (.int lc), .val (.ref r13), .val (.ref r19), .unset, .unset, .unset] [])) (fun _ k => XS.icmpYes X19.here hx rfl (pc0 := 155) (pc' := 169) rfl (hb hby at_155) rfl (flt hc155).2.2.2 (by decide) (by decide) k) ?_
                    refine GoW.via (S' := T19.setTop (mkF m 170 #[.val (.int p1), .val (.int p2), .val (.int p3), .val (.int p4), .val (.int n), .val (.int r1), .val (.int r3), .val (.int r5), .val (.int r7), .val (.ref r9), .val (.int wc), .val (.int lc), .val (.ref r13), .val (.ref r19), .unset, .unset, .unset] [(.int (0 : Int32))])) (fun _ k => XS.iconst X19.here hx rfl (hb hby at_169) k) ?_
                    exact J170 _ (Or.inr ⟨rfl, fun q => ((own_hd_iff hn).mp q).elim (fun a => hc123 a.2) (fun q => q.elim (fun a => hc136 a.2) (fun q => q.elim (fun a => hc149 a.2) (fun a => hc155 a.1)))⟩)
              · refine GoW.via (S' := T19.setTop (mkF m 152 #[.val (.int p1), .val (.int p2), .val (.int p3), .val (.int p4), .val (.int n), .val (.int r1), .val (.int r3), .val (.int r5), .val (.int r7), .val (.ref r9), .val (.int wc), .val (.int lc), .val (.ref r13), .val (.ref r19), .unset, .unset, .unset] [])) (fun _ k => XS.icmpYes X19.here hx rfl (pc0 := 142) (pc' := 152) rfl (hb hby at_142) rfl (flt hc142).2.2.2 (by decide) (by decide) k) ?_
                refine GoW.via (S' := T19.setTop (mkF m 154 #[.val (.int p1), .val (.int p2), .val (.int p3), .val (.int p4), .val (.int n), .val (.int r1), .val (.int r3), .val (.int r5), .val (.int r7), .val (.ref r9), .val (.int wc), .val (.int lc), .val (.ref r13), .val (.ref r19), .unset, .unset, .unset] [(.int n)])) (fun _ k => XS.iload X19.here hx rfl (hb hby at_152) rfl k) ?_
                refine GoW.via (S' := T19.setTop (mkF m 155 #[.val (.int p1), .val (.int p2), .val (.int p3), .val (.int p4), .val (.int n), .val (.int r1), .val (.int r3), .val (.int r5), .val (.int r7), .val (.ref r9), .val (.int wc), .val (.int lc), .val (.ref r13), .val (.ref r19), .unset, .unset, .unset] [(.int (3 : Int32)), (.int n)])) (fun _ k => XS.iconst X19.here hx rfl (hb hby at_154) k) ?_
                rcases Decidable.em ((3 : Int32) < n) with hc155 | hc155
                · refine GoW.via (S' := T19.setTop (mkF m 158 #[.val (.int p1), .val (.int p2), .val (.int p3), .val (.int p4), .val (.int n), .val (.int r1), .val (.int r3), .val (.int r5), .val (.int r7), .val (.ref r9), .val (.int wc), .val (.int lc), .val (.ref r13), .val (.ref r19), .unset, .unset, .unset] [])) (fun _ k => XS.icmpNo X19.here hx rfl (hb hby at_155) rfl (tlt hc155).2.2.2 k) ?_
                  refine GoW.via (S' := T19.setTop (mkF m 160 #[.val (.int p1), .val (.int p2), .val (.int p3), .val (.int p4), .val (.int n), .val (.int r1), .val (.int r3), .val (.int r5), .val (.int r7), .val (.ref r9), .val (.int wc), .val (.int lc), .val (.ref r13), .val (.ref r19), .unset, .unset, .unset] [(.int r7)])) (fun _ k => XS.iload X19.here hx rfl (hb hby at_158) rfl k) ?_
                  refine GoW.via (S' := T19.setTop (mkF m 162 #[.val (.int p1), .val (.int p2), .val (.int p3), .val (.int p4), .val (.int n), .val (.int r1), .val (.int r3), .val (.int r5), .val (.int r7), .val (.ref r9), .val (.int wc), .val (.int lc), .val (.ref r13), .val (.ref r19), .unset, .unset, .unset] [(.int (46 : Int32)), (.int r7)])) (fun _ k => XS.bipush X19.here hx rfl (hb hby at_160) k) ?_
                  rcases Decidable.em (r7 = (46 : Int32)) with hc162 | hc162
                  · refine GoW.via (S' := T19.setTop (mkF m 165 #[.val (.int p1), .val (.int p2), .val (.int p3), .val (.int p4), .val (.int n), .val (.int r1), .val (.int r3), .val (.int r5), .val (.int r7), .val (.ref r9), .val (.int wc), .val (.int lc), .val (.ref r13), .val (.ref r19), .unset, .unset, .unset] [])) (fun _ k => XS.icmpNo X19.here hx rfl (hb hby at_162) rfl (teq hc162).2 k) ?_
                    refine GoW.via (S' := T19.setTop (mkF m 166 #[.val (.int p1), .val (.int p2), .val (.int p3), .val (.int p4), .val (.int n), .val (.int r1), .val (.int r3), .val (.int r5), .val (.int r7), .val (.ref r9), .val (.int wc), .val (.int lc), .val (.ref r13), .val (.ref r19), .unset, .unset, .unset] [(.int (1 : Int32))])) (fun _ k => XS.iconst X19.here hx rfl (hb hby at_165) k) ?_
                    refine GoW.via (S' := T19.setTop (mkF m 170 #[.val (.int p1), .val (.int p2), .val (.int p3), .val (.int p4), .val (.int n), .val (.int r1), .val (.int r3), .val (.int r5), .val (.int r7), .val (.ref r9), .val (.int wc), .val (.int lc), .val (.ref r13), .val (.ref r19), .unset, .unset, .unset] [(.int (1 : Int32))])) (fun _ k => XS.goto X19.here hx rfl (pc0 := 166) (pc' := 170) rfl (hb hby at_166) (by decide) (by decide) k) ?_
                    exact J170 _ (Or.inl ⟨rfl, (own_hd_iff hn).mpr (Or.inr (Or.inr (Or.inr (⟨hc155, hc162⟩))))⟩)
                  · refine GoW.via (S' := T19.setTop (mkF m 169 #[.val (.int p1), .val (.int p2), .val (.int p3), .val (.int p4), .val (.int n), .val (.int r1), .val (.int r3), .val (.int r5), .val (.int r7), .val (.ref r9), .val (.int wc), .val (.int lc), .val (.ref r13), .val (.ref r19), .unset, .unset, .unset] [])) (fun _ k => XS.icmpYes X19.here hx rfl (pc0 := 162) (pc' := 169) rfl (hb hby at_162) rfl (feq hc162).2 (by decide) (by decide) k) ?_
                    refine GoW.via (S' := T19.setTop (mkF m 170 #[.val (.int p1), .val (.int p2), .val (.int p3), .val (.int p4), .val (.int n), .val (.int r1), .val (.int r3), .val (.int r5), .val (.int r7), .val (.ref r9), .val (.int wc), .val (.int lc), .val (.ref r13), .val (.ref r19), .unset, .unset, .unset] [(.int (0 : Int32))])) (fun _ k => XS.iconst X19.here hx rfl (hb hby at_169) k) ?_
                    exact J170 _ (Or.inr ⟨rfl, fun q => ((own_hd_iff hn).mp q).elim (fun a => hc123 a.2) (fun q => q.elim (fun a => hc136 a.2) (fun q => q.elim (fun a => hc142 a.1) (fun a => hc162 a.2)))⟩)
                · refine GoW.via (S' := T19.setTop (mkF m 169 #[.val (.int p1), .val (.int p2), .val (.int p3), .val (.int p4), .val (.int n), .val (.int r1), .val (.int r3), .val (.int r5), .val (.int r7), .val (.ref r9), .val (.int wc), .val (.int lc), .val (.ref r13), .val (.ref r19), .unset, .unset, .unset] [])) (fun _ k => XS.icmpYes X19.here hx rfl (pc0 := 155) (pc' := 169) rfl (hb hby at_155) rfl (flt hc155).2.2.2 (by decide) (by decide) k) ?_
                  refine GoW.via (S' := T19.setTop (mkF m 170 #[.val (.int p1), .val (.int p2), .val (.int p3), .val (.int p4), .val (.int n), .val (.int r1), .val (.int r3), .val (.int r5), .val (.int r7), .val (.ref r9), .val (.int wc), .val (.int lc), .val (.ref r13), .val (.ref r19), .unset, .unset, .unset] [(.int (0 : Int32))])) (fun _ k => XS.iconst X19.here hx rfl (hb hby at_169) k) ?_
                  exact J170 _ (Or.inr ⟨rfl, fun q => ((own_hd_iff hn).mp q).elim (fun a => hc123 a.2) (fun q => q.elim (fun a => hc136 a.2) (fun q => q.elim (fun a => hc142 a.1) (fun a => hc155 a.1)))⟩)
          · refine GoW.via (S' := T19.setTop (mkF m 139 #[.val (.int p1), .val (.int p2), .val (.int p3), .val (.int p4), .val (.int n), .val (.int r1), .val (.int r3), .val (.int r5), .val (.int r7), .val (.ref r9), .val (.int wc), .val (.int lc), .val (.ref r13), .val (.ref r19), .unset, .unset, .unset] [])) (fun _ k => XS.icmpYes X19.here hx rfl (pc0 := 129) (pc' := 139) rfl (hb hby at_129) rfl (flt hc129).2.2.2 (by decide) (by decide) k) ?_
            refine GoW.via (S' := T19.setTop (mkF m 141 #[.val (.int p1), .val (.int p2), .val (.int p3), .val (.int p4), .val (.int n), .val (.int r1), .val (.int r3), .val (.int r5), .val (.int r7), .val (.ref r9), .val (.int wc), .val (.int lc), .val (.ref r13), .val (.ref r19), .unset, .unset, .unset] [(.int n)])) (fun _ k => XS.iload X19.here hx rfl (hb hby at_139) rfl k) ?_
            refine GoW.via (S' := T19.setTop (mkF m 142 #[.val (.int p1), .val (.int p2), .val (.int p3), .val (.int p4), .val (.int n), .val (.int r1), .val (.int r3), .val (.int r5), .val (.int r7), .val (.ref r9), .val (.int wc), .val (.int lc), .val (.ref r13), .val (.ref r19), .unset, .unset, .unset] [(.int (2 : Int32)), (.int n)])) (fun _ k => XS.iconst X19.here hx rfl (hb hby at_141) k) ?_
            rcases Decidable.em ((2 : Int32) < n) with hc142 | hc142
            · refine GoW.via (S' := T19.setTop (mkF m 145 #[.val (.int p1), .val (.int p2), .val (.int p3), .val (.int p4), .val (.int n), .val (.int r1), .val (.int r3), .val (.int r5), .val (.int r7), .val (.ref r9), .val (.int wc), .val (.int lc), .val (.ref r13), .val (.ref r19), .unset, .unset, .unset] [])) (fun _ k => XS.icmpNo X19.here hx rfl (hb hby at_142) rfl (tlt hc142).2.2.2 k) ?_
              refine GoW.via (S' := T19.setTop (mkF m 147 #[.val (.int p1), .val (.int p2), .val (.int p3), .val (.int p4), .val (.int n), .val (.int r1), .val (.int r3), .val (.int r5), .val (.int r7), .val (.ref r9), .val (.int wc), .val (.int lc), .val (.ref r13), .val (.ref r19), .unset, .unset, .unset] [(.int r5)])) (fun _ k => XS.iload X19.here hx rfl (hb hby at_145) rfl k) ?_
              refine GoW.via (S' := T19.setTop (mkF m 149 #[.val (.int p1), .val (.int p2), .val (.int p3), .val (.int p4), .val (.int n), .val (.int r1), .val (.int r3), .val (.int r5), .val (.int r7), .val (.ref r9), .val (.int wc), .val (.int lc), .val (.ref r13), .val (.ref r19), .unset, .unset, .unset] [(.int (46 : Int32)), (.int r5)])) (fun _ k => XS.bipush X19.here hx rfl (hb hby at_147) k) ?_
              rcases Decidable.em (r5 = (46 : Int32)) with hc149 | hc149
              · refine GoW.via (S' := T19.setTop (mkF m 165 #[.val (.int p1), .val (.int p2), .val (.int p3), .val (.int p4), .val (.int n), .val (.int r1), .val (.int r3), .val (.int r5), .val (.int r7), .val (.ref r9), .val (.int wc), .val (.int lc), .val (.ref r13), .val (.ref r19), .unset, .unset, .unset] [])) (fun _ k => XS.icmpYes X19.here hx rfl (pc0 := 149) (pc' := 165) rfl (hb hby at_149) rfl (teq hc149).1 (by decide) (by decide) k) ?_
                refine GoW.via (S' := T19.setTop (mkF m 166 #[.val (.int p1), .val (.int p2), .val (.int p3), .val (.int p4), .val (.int n), .val (.int r1), .val (.int r3), .val (.int r5), .val (.int r7), .val (.ref r9), .val (.int wc), .val (.int lc), .val (.ref r13), .val (.ref r19), .unset, .unset, .unset] [(.int (1 : Int32))])) (fun _ k => XS.iconst X19.here hx rfl (hb hby at_165) k) ?_
                refine GoW.via (S' := T19.setTop (mkF m 170 #[.val (.int p1), .val (.int p2), .val (.int p3), .val (.int p4), .val (.int n), .val (.int r1), .val (.int r3), .val (.int r5), .val (.int r7), .val (.ref r9), .val (.int wc), .val (.int lc), .val (.ref r13), .val (.ref r19), .unset, .unset, .unset] [(.int (1 : Int32))])) (fun _ k => XS.goto X19.here hx rfl (pc0 := 166) (pc' := 170) rfl (hb hby at_166) (by decide) (by decide) k) ?_
                exact J170 _ (Or.inl ⟨rfl, (own_hd_iff hn).mpr (Or.inr (Or.inr (Or.inl ⟨hc142, hc149⟩)))⟩)
              · refine GoW.via (S' := T19.setTop (mkF m 152 #[.val (.int p1), .val (.int p2), .val (.int p3), .val (.int p4), .val (.int n), .val (.int r1), .val (.int r3), .val (.int r5), .val (.int r7), .val (.ref r9), .val (.int wc), .val (.int lc), .val (.ref r13), .val (.ref r19), .unset, .unset, .unset] [])) (fun _ k => XS.icmpNo X19.here hx rfl (hb hby at_149) rfl (feq hc149).1 k) ?_
                refine GoW.via (S' := T19.setTop (mkF m 154 #[.val (.int p1), .val (.int p2), .val (.int p3), .val (.int p4), .val (.int n), .val (.int r1), .val (.int r3), .val (.int r5), .val (.int r7), .val (.ref r9), .val (.int wc), .val (.int lc), .val (.ref r13), .val (.ref r19), .unset, .unset, .unset] [(.int n)])) (fun _ k => XS.iload X19.here hx rfl (hb hby at_152) rfl k) ?_
                refine GoW.via (S' := T19.setTop (mkF m 155 #[.val (.int p1), .val (.int p2), .val (.int p3), .val (.int p4), .val (.int n), .val (.int r1), .val (.int r3), .val (.int r5), .val (.int r7), .val (.ref r9), .val (.int wc), .val (.int lc), .val (.ref r13), .val (.ref r19), .unset, .unset, .unset] [(.int (3 : Int32)), (.int n)])) (fun _ k => XS.iconst X19.here hx rfl (hb hby at_154) k) ?_
                rcases Decidable.em ((3 : Int32) < n) with hc155 | hc155
                · refine GoW.via (S' := T19.setTop (mkF m 158 #[.val (.int p1), .val (.int p2), .val (.int p3), .val (.int p4), .val (.int n), .val (.int r1), .val (.int r3), .val (.int r5), .val (.int r7), .val (.ref r9), .val (.int wc), .val (.int lc), .val (.ref r13), .val (.ref r19), .unset, .unset, .unset] [])) (fun _ k => XS.icmpNo X19.here hx rfl (hb hby at_155) rfl (tlt hc155).2.2.2 k) ?_
                  refine GoW.via (S' := T19.setTop (mkF m 160 #[.val (.int p1), .val (.int p2), .val (.int p3), .val (.int p4), .val (.int n), .val (.int r1), .val (.int r3), .val (.int r5), .val (.int r7), .val (.ref r9), .val (.int wc), .val (.int lc), .val (.ref r13), .val (.ref r19), .unset, .unset, .unset] [(.int r7)])) (fun _ k => XS.iload X19.here hx rfl (hb hby at_158) rfl k) ?_
                  refine GoW.via (S' := T19.setTop (mkF m 162 #[.val (.int p1), .val (.int p2), .val (.int p3), .val (.int p4), .val (.int n), .val (.int r1), .val (.int r3), .val (.int r5), .val (.int r7), .val (.ref r9), .val (.int wc), .val (.int lc), .val (.ref r13), .val (.ref r19), .unset, .unset, .unset] [(.int (46 : Int32)), (.int r7)])) (fun _ k => XS.bipush X19.here hx rfl (hb hby at_160) k) ?_
                  rcases Decidable.em (r7 = (46 : Int32)) with hc162 | hc162
                  · refine GoW.via (S' := T19.setTop (mkF m 165 #[.val (.int p1), .val (.int p2), .val (.int p3), .val (.int p4), .val (.int n), .val (.int r1), .val (.int r3), .val (.int r5), .val (.int r7), .val (.ref r9), .val (.int wc), .val (.int lc), .val (.ref r13), .val (.ref r19), .unset, .unset, .unset] [])) (fun _ k => XS.icmpNo X19.here hx rfl (hb hby at_162) rfl (teq hc162).2 k) ?_
                    refine GoW.via (S' := T19.setTop (mkF m 166 #[.val (.int p1), .val (.int p2), .val (.int p3), .val (.int p4), .val (.int n), .val (.int r1), .val (.int r3), .val (.int r5), .val (.int r7), .val (.ref r9), .val (.int wc), .val (.int lc), .val (.ref r13), .val (.ref r19), .unset, .unset, .unset] [(.int (1 : Int32))])) (fun _ k => XS.iconst X19.here hx rfl (hb hby at_165) k) ?_
                    refine GoW.via (S' := T19.setTop (mkF m 170 #[.val (.int p1), .val (.int p2), .val (.int p3), .val (.int p4), .val (.int n), .val (.int r1), .val (.int r3), .val (.int r5), .val (.int r7), .val (.ref r9), .val (.int wc), .val (.int lc), .val (.ref r13), .val (.ref r19), .unset, .unset, .unset] [(.int (1 : Int32))])) (fun _ k => XS.goto X19.here hx rfl (pc0 := 166) (pc' := 170) rfl (hb hby at_166) (by decide) (by decide) k) ?_
                    exact J170 _ (Or.inl ⟨rfl, (own_hd_iff hn).mpr (Or.inr (Or.inr (Or.inr (⟨hc155, hc162⟩))))⟩)
                  · refine GoW.via (S' := T19.setTop (mkF m 169 #[.val (.int p1), .val (.int p2), .val (.int p3), .val (.int p4), .val (.int n), .val (.int r1), .val (.int r3), .val (.int r5), .val (.int r7), .val (.ref r9), .val (.int wc), .val (.int lc), .val (.ref r13), .val (.ref r19), .unset, .unset, .unset] [])) (fun _ k => XS.icmpYes X19.here hx rfl (pc0 := 162) (pc' := 169) rfl (hb hby at_162) rfl (feq hc162).2 (by decide) (by decide) k) ?_
                    refine GoW.via (S' := T19.setTop (mkF m 170 #[.val (.int p1), .val (.int p2), .val (.int p3), .val (.int p4), .val (.int n), .val (.int r1), .val (.int r3), .val (.int r5), .val (.int r7), .val (.ref r9), .val (.int wc), .val (.int lc), .val (.ref r13), .val (.ref r19), .unset, .unset, .unset] [(.int (0 : Int32))])) (fun _ k => XS.iconst X19.here hx rfl (hb hby at_169) k) ?_
                    exact J170 _ (Or.inr ⟨rfl, fun q => ((own_hd_iff hn).mp q).elim (fun a => hc123 a.2) (fun q => q.elim (fun a => hc129 a.1) (fun q => q.elim (fun a => hc149 a.2) (fun a => hc162 a.2)))⟩)
                · refine GoW.via (S' := T19.setTop (mkF m 169 #[.val (.int p1), .val (.int p2), .val (.int p3), .val (.int p4), .val (.int n), .val (.int r1), .val (.int r3), .val (.int r5), .val (.int r7), .val (.ref r9), .val (.int wc), .val (.int lc), .val (.ref r13), .val (.ref r19), .unset, .unset, .unset] [])) (fun _ k => XS.icmpYes X19.here hx rfl (pc0 := 155) (pc' := 169) rfl (hb hby at_155) rfl (flt hc155).2.2.2 (by decide) (by decide) k) ?_
                  refine GoW.via (S' := T19.setTop (mkF m 170 #[.val (.int p1), .val (.int p2), .val (.int p3), .val (.int p4), .val (.int n), .val (.int r1), .val (.int r3), .val (.int r5), .val (.int r7), .val (.ref r9), .val (.int wc), .val (.int lc), .val (.ref r13), .val (.ref r19), .unset, .unset, .unset] [(.int (0 : Int32))])) (fun _ k => XS.iconst X19.here hx rfl (hb hby at_169) k) ?_
                  exact J170 _ (Or.inr ⟨rfl, fun q => ((own_hd_iff hn).mp q).elim (fun a => hc123 a.2) (fun q => q.elim (fun a => hc129 a.1) (fun q => q.elim (fun a => hc149 a.2) (fun a => hc155 a.1)))⟩)
            · refine GoW.via (S' := T19.setTop (mkF m 152 #[.val (.int p1), .val (.int p2), .val (.int p3), .val (.int p4), .val (.int n), .val (.int r1), .val (.int r3), .val (.int r5), .val (.int r7), .val (.ref r9), .val (.int wc), .val (.int lc), .val (.ref r13), .val (.ref r19), .unset, .unset, .unset] [])) (fun _ k => XS.icmpYes X19.here hx rfl (pc0 := 142) (pc' := 152) rfl (hb hby at_142) rfl (flt hc142).2.2.2 (by decide) (by decide) k) ?_
              refine GoW.via (S' := T19.setTop (mkF m 154 #[.val (.int p1), .val (.int p2), .val (.int p3), .val (.int p4), .val (.int n), .val (.int r1), .val (.int r3), .val (.int r5), .val (.int r7), .val (.ref r9), .val (.int wc), .val (.int lc), .val (.ref r13), .val (.ref r19), .unset, .unset, .unset] [(.int n)])) (fun _ k => XS.iload X19.here hx rfl (hb hby at_152) rfl k) ?_
              refine GoW.via (S' := T19.setTop (mkF m 155 #[.val (.int p1), .val (.int p2), .val (.int p3), .val (.int p4), .val (.int n), .val (.int r1), .val (.int r3), .val (.int r5), .val (.int r7), .val (.ref r9), .val (.int wc), .val (.int lc), .val (.ref r13), .val (.ref r19), .unset, .unset, .unset] [(.int (3 : Int32)), (.int n)])) (fun _ k => XS.iconst X19.here hx rfl (hb hby at_154) k) ?_
              rcases Decidable.em ((3 : Int32) < n) with hc155 | hc155
              · refine GoW.via (S' := T19.setTop (mkF m 158 #[.val (.int p1), .val (.int p2), .val (.int p3), .val (.int p4), .val (.int n), .val (.int r1), .val (.int r3), .val (.int r5), .val (.int r7), .val (.ref r9), .val (.int wc), .val (.int lc), .val (.ref r13), .val (.ref r19), .unset, .unset, .unset] [])) (fun _ k => XS.icmpNo X19.here hx rfl (hb hby at_155) rfl (tlt hc155).2.2.2 k) ?_
                refine GoW.via (S' := T19.setTop (mkF m 160 #[.val (.int p1), .val (.int p2), .val (.int p3), .val (.int p4), .val (.int n), .val (.int r1), .val (.int r3), .val (.int r5), .val (.int r7), .val (.ref r9), .val (.int wc), .val (.int lc), .val (.ref r13), .val (.ref r19), .unset, .unset, .unset] [(.int r7)])) (fun _ k => XS.iload X19.here hx rfl (hb hby at_158) rfl k) ?_
                refine GoW.via (S' := T19.setTop (mkF m 162 #[.val (.int p1), .val (.int p2), .val (.int p3), .val (.int p4), .val (.int n), .val (.int r1), .val (.int r3), .val (.int r5), .val (.int r7), .val (.ref r9), .val (.int wc), .val (.int lc), .val (.ref r13), .val (.ref r19), .unset, .unset, .unset] [(.int (46 : Int32)), (.int r7)])) (fun _ k => XS.bipush X19.here hx rfl (hb hby at_160) k) ?_
                rcases Decidable.em (r7 = (46 : Int32)) with hc162 | hc162
                · refine GoW.via (S' := T19.setTop (mkF m 165 #[.val (.int p1), .val (.int p2), .val (.int p3), .val (.int p4), .val (.int n), .val (.int r1), .val (.int r3), .val (.int r5), .val (.int r7), .val (.ref r9), .val (.int wc), .val (.int lc), .val (.ref r13), .val (.ref r19), .unset, .unset, .unset] [])) (fun _ k => XS.icmpNo X19.here hx rfl (hb hby at_162) rfl (teq hc162).2 k) ?_
                  refine GoW.via (S' := T19.setTop (mkF m 166 #[.val (.int p1), .val (.int p2), .val (.int p3), .val (.int p4), .val (.int n), .val (.int r1), .val (.int r3), .val (.int r5), .val (.int r7), .val (.ref r9), .val (.int wc), .val (.int lc), .val (.ref r13), .val (.ref r19), .unset, .unset, .unset] [(.int (1 : Int32))])) (fun _ k => XS.iconst X19.here hx rfl (hb hby at_165) k) ?_
                  refine GoW.via (S' := T19.setTop (mkF m 170 #[.val (.int p1), .val (.int p2), .val (.int p3), .val (.int p4), .val (.int n), .val (.int r1), .val (.int r3), .val (.int r5), .val (.int r7), .val (.ref r9), .val (.int wc), .val (.int lc), .val (.ref r13), .val (.ref r19), .unset, .unset, .unset] [(.int (1 : Int32))])) (fun _ k => XS.goto X19.here hx rfl (pc0 := 166) (pc' := 170) rfl (hb hby at_166) (by decide) (by decide) k) ?_
                  exact J170 _ (Or.inl ⟨rfl, (own_hd_iff hn).mpr (Or.inr (Or.inr (Or.inr (⟨hc155, hc162⟩))))⟩)
                · refine GoW.via (S' := T19.setTop (mkF m 169 #[.val (.int p1), .val (.int p2), .val (.int p3), .val (.int p4), .val (.int n), .val (.int r1), .val (.int r3), .val (.int r5), .val (.int r7), .val (.ref r9), .val (.int wc), .val (.int lc), .val (.ref r13), .val (.ref r19), .unset, .unset, .unset] [])) (fun _ k => XS.icmpYes X19.here hx rfl (pc0 := 162) (pc' := 169) rfl (hb hby at_162) rfl (feq hc162).2 (by decide) (by decide) k) ?_
                  refine GoW.via (S' := T19.setTop (mkF m 170 #[.val (.int p1), .val (.int p2), .val (.int p3), .val (.int p4), .val (.int n), .val (.int r1), .val (.int r3), .val (.int r5), .val (.int r7), .val (.ref r9), .val (.int wc), .val (.int lc), .val (.ref r13), .val (.ref r19), .unset, .unset, .unset] [(.int (0 : Int32))])) (fun _ k => XS.iconst X19.here hx rfl (hb hby at_169) k) ?_
                  exact J170 _ (Or.inr ⟨rfl, fun q => ((own_hd_iff hn).mp q).elim (fun a => hc123 a.2) (fun q => q.elim (fun a => hc129 a.1) (fun q => q.elim (fun a => hc142 a.1) (fun a => hc162 a.2)))⟩)
              · refine GoW.via (S' := T19.setTop (mkF m 169 #[.val (.int p1), .val (.int p2), .val (.int p3), .val (.int p4), .val (.int n), .val (.int r1), .val (.int r3), .val (.int r5), .val (.int r7), .val (.ref r9), .val (.int wc), .val (.int lc), .val (.ref r13), .val (.ref r19), .unset, .unset, .unset] [])) (fun _ k => XS.icmpYes X19.here hx rfl (pc0 := 155) (pc' := 169) rfl (hb hby at_155) rfl (flt hc155).2.2.2 (by decide) (by decide) k) ?_
                refine GoW.via (S' := T19.setTop (mkF m 170 #[.val (.int p1), .val (.int p2), .val (.int p3), .val (.int p4), .val (.int n), .val (.int r1), .val (.int r3), .val (.int r5), .val (.int r7), .val (.ref r9), .val (.int wc), .val (.int lc), .val (.ref r13), .val (.ref r19), .unset, .unset, .unset] [(.int (0 : Int32))])) (fun _ k => XS.iconst X19.here hx rfl (hb hby at_169) k) ?_
                exact J170 _ (Or.inr ⟨rfl, fun q => ((own_hd_iff hn).mp q).elim (fun a => hc123 a.2) (fun q => q.elim (fun a => hc129 a.1) (fun q => q.elim (fun a => hc142 a.1) (fun a => hc155 a.1)))⟩)
      · refine GoW.via (S' := T19.setTop (mkF m 126 #[.val (.int p1), .val (.int p2), .val (.int p3), .val (.int p4), .val (.int n), .val (.int r1), .val (.int r3), .val (.int r5), .val (.int r7), .val (.ref r9), .val (.int wc), .val (.int lc), .val (.ref r13), .val (.ref r19), .unset, .unset, .unset] [])) (fun _ k => XS.ifYes X19.here hx rfl (pc0 := 116) (pc' := 126) rfl (hb hby at_116) rfl ((if0 _ _).trans (flt hc116).2.2.2) (by decide) (by decide) k) ?_
        refine GoW.via (S' := T19.setTop (mkF m 128 #[.val (.int p1), .val (.int p2), .val (.int p3), .val (.int p4), .val (.int n), .val (.int r1), .val (.int r3), .val (.int r5), .val (.int r7), .val (.ref r9), .val (.int wc), .val (.int lc), .val (.ref r13), .val (.ref r19), .unset, .unset, .unset] [(.int n)])) (fun _ k => XS.iload X19.here hx rfl (hb hby at_126) rfl k) ?_
        refine GoW.via (S' := T19.setTop (mkF m 129 #[.val (.int p1), .val (.int p2), .val (.int p3), .val (.int p4), .val (.int n), .val (.int r1), .val (.int r3), .val (.int r5), .val (.int r7), .val (.ref r9), .val (.int wc), .val (.int lc), .val (.ref r13), .val (.ref r19), .unset, .unset, .unset] [(.int (1 : Int32)), (.int n)])) (fun _ k => XS.iconst X19.here hx rfl (hb hby at_128) k) ?_
        rcases Decidable.em ((1 : Int32) < n) with hc129 | hc129
        · refine GoW.via (S' := T19.setTop (mkF m 132 #[.val (.int p1), .val (.int p2), .val (.int p3), .val (.int p4), .val (.int n), .val (.int r1), .val (.int r3), .val (.int r5), .val (.int r7), .val (.ref r9), .val (.int wc), .val (.int lc), .val (.ref r13), .val (.ref r19), .unset, .unset, .unset] [])) (fun _ k => XS.icmpNo X19.here hx rfl (hb hby at_129) rfl (tlt hc129).2.2.2 k) ?_
          refine GoW.via (S' := T19.setTop (mkF m 134 #[.val (.int p1), .val (.int p2), .val (.int p3), .val (.int p4), .val (.int n), .val (.int r1), .val (.int r3), .val (.int r5), .val (.int r7), .val (.ref r9), .val (.int wc), .val (.int lc), .val (.ref r13), .val (.ref r19), .unset, .unset, .unset] [(.int r3)])) (fun _ k => XS.iload X19.here hx rfl (hb hby at_132) rfl k) ?_
          refine GoW.via (S' := T19.setTop (mkF m 136 #[.val (.int p1), .val (.int p2), .val (.int p3), .val (.int p4), .val (.int n), .val (.int r1), .val (.int r3), .val (.int r5), .val (.int r7), .val (.ref r9), .val (.int wc), .val (.int lc), .val (.ref r13), .val (.ref r19), .unset, .unset, .unset] [(.int (46 : Int32)), (.int r3)])) (fun _ k => XS.bipush X19.here hx rfl (hb hby at_134) k) ?_
          rcases Decidable.em (r3 = (46 : Int32)) with hc136 | hc136
          · refine GoW.via (S' := T19.setTop (mkF m 165 #[.val (.int p1), .val (.int p2), .val (.int p3), .val (.int p4), .val (.int n), .val (.int r1), .val (.int r3), .val (.int r5), .val (.int r7), .val (.ref r9), .val (.int wc), .val (.int lc), .val (.ref r13), .val (.ref r19), .unset, .unset, .unset] [])) (fun _ k => XS.icmpYes X19.here hx rfl (pc0 := 136) (pc' := 165) rfl (hb hby at_136) rfl (teq hc136).1 (by decide) (by decide) k) ?_
            refine GoW.via (S' := T19.setTop (mkF m 166 #[.val (.int p1), .val (.int p2), .val (.int p3), .val (.int p4), .val (.int n), .val (.int r1), .val (.int r3), .val (.int r5), .val (.int r7), .val (.ref r9), .val (.int wc), .val (.int lc), .val (.ref r13), .val (.ref r19), .unset, .unset, .unset] [(.int (1 : Int32))])) (fun _ k => XS.iconst X19.here hx rfl (hb hby at_165) k) ?_
            refine GoW.via (S' := T19.setTop (mkF m 170 #[.val (.int p1), .val (.int p2), .val (.int p3), .val (.int p4), .val (.int n), .val (.int r1), .val (.int r3), .val (.int r5), .val (.int r7), .val (.ref r9), .val (.int wc), .val (.int lc), .val (.ref r13), .val (.ref r19), .unset, .unset, .unset] [(.int (1 : Int32))])) (fun _ k => XS.goto X19.here hx rfl (pc0 := 166) (pc' := 170) rfl (hb hby at_166) (by decide) (by decide) k) ?_
            exact J170 _ (Or.inl ⟨rfl, (own_hd_iff hn).mpr (Or.inr (Or.inl ⟨hc129, hc136⟩))⟩)
          · refine GoW.via (S' := T19.setTop (mkF m 139 #[.val (.int p1), .val (.int p2), .val (.int p3), .val (.int p4), .val (.int n), .val (.int r1), .val (.int r3), .val (.int r5), .val (.int r7), .val (.ref r9), .val (.int wc), .val (.int lc), .val (.ref r13), .val (.ref r19), .unset, .unset, .unset] [])) (fun _ k => XS.icmpNo X19.here hx rfl (hb hby at_136) rfl (feq hc136).1 k) ?_
            refine GoW.via (S' := T19.setTop (mkF m 141 #[.val (.int p1), .val (.int p2), .val (.int p3), .val (.int p4), .val (.int n), .val (.int r1), .val (.int r3), .val (.int r5), .val (.int r7), .val (.ref r9), .val (.int wc), .val (.int lc), .val (.ref r13), .val (.ref r19), .unset, .unset, .unset] [(.int n)])) (fun _ k => XS.iload X19.here hx rfl (hb hby at_139) rfl k) ?_
            refine GoW.via (S' := T19.setTop (mkF m 142 #[.val (.int p1), .val (.int p2), .val (.int p3), .val (.int p4), .val (.int n), .val (.int r1), .val (.int r3), .val (.int r5), .val (.int r7), .val (.ref r9), .val (.int wc), .val (.int lc), .val (.ref r13), .val (.ref r19), .unset, .unset, .unset] [(.int (2 : Int32)), (.int n)])) (fun _ k => XS.iconst X19.here hx rfl (hb hby at_141) k) ?_
            rcases Decidable.em ((2 : Int32) < n) with hc142 | hc142
            · refine GoW.via (S' := T19.setTop (mkF m 145 #[.val (.int p1), .val (.int p2), .val (.int p3), .val (.int p4), .val (.int n), .val (.int r1), .val (.int r3), .val (.int r5), .val (.int r7), .val (.ref r9), .val (.int wc), .val (.int lc), .val (.ref r13), .val (.ref r19), .unset, .unset, .unset] [])) (fun _ k => XS.icmpNo X19.here hx rfl (hb hby at_142) rfl (tlt hc142).2.2.2 k) ?_
              refine GoW.via (S' := T19.setTop (mkF m 147 #[.val (.int p1), .val (.int p2), .val (.int p3), .val (.int p4), .val (.int n), .val (.int r1), .val (.int r3), .val (.int r5), .val (.int r7), .val (.ref r9), .val (.int wc), .val (.int lc), .val (.ref r13), .val (.ref r19), .unset, .unset, .unset] [(.int r5)])) (fun _ k => XS.iload X19.here hx rfl (hb hby at_145) rfl k) ?_
              refine GoW.via (S' := T19.setTop (mkF m 149 #[.val (.int p1), .val (.int p2), .val (.int p3), .val (.int p4), .val (.int n), .val (.int r1), .val (.int r3), .val (.int r5), .val (.int r7), .val (.ref r9), .val (.int wc), .val (.int lc), .val (.ref r13), .val (.ref r19), .unset, .unset, .unset] [(.int (46 : Int32)), (.int r5)])) (fun _ k => XS.bipush X19.here hx rfl (hb hby at_147) k) ?_
              rcases Decidable.em (r5 = (46 : Int32)) with hc149 | hc149
              · refine GoW.via (S' := T19.setTop (mkF m 165 #[.val (.int p1), .val (.int p2), .val (.int p3), .val (.int p4), .val (.int n), .val (.int r1), .val (.int r3), .val (.int r5), .val (.int r7), .val (.ref r9), .val (.int wc), .val (.int lc), .val (.ref r13), .val (.ref r19), .unset, .unset, .unset] [])) (fun _ k => XS.icmpYes X19.here hx rfl (pc0 := 149) (pc' := 165) rfl (hb hby at_149) rfl (teq hc149).1 (by decide) (by decide) k) ?_
                refine GoW.via (S' := T19.setTop (mkF m 166 #[.val (.int p1), .val (.int p2), .val (.int p3), .val (.int p4), .val (.int n), .val (.int r1), .val (.int r3), .val (.int r5), .val (.int r7), .val (.ref r9), .val (.int wc), .val (.int lc), .val (.ref r13), .val (.ref r19), .unset, .unset, .unset] [(.int (1 : Int32))])) (fun _ k => XS.iconst X19.here hx rfl (hb hby at_165) k) ?_
                refine GoW.via (S' := T19.setTop (mkF m 170 #[.val (.int p1), .val (.int p2), .val (.int p3), .val (.int p4), .val (.int n), .val (.int r1), .val (.int r3), .val (.int r5), .val (.int r7), .val (.ref r9), .val (.int wc), .val (.int lc), .val (.ref r13), .val (.ref r19), .unset, .unset, .unset] [(.int (1 : Int32))])) (fun _ k => XS.goto X19.here hx rfl (pc0 := 166) (pc' := 170) rfl (hb hby at_166) (by decide) (by decide) k) ?_
                exact J170 _ (Or.inl ⟨rfl, (own_hd_iff hn).mpr (Or.inr (Or.inr (Or.inl ⟨hc142, hc149⟩)))⟩)
              · refine GoW.via (S' := T19.setTop (mkF m 152 #[.val (.int p1), .val (.int p2), .val (.int p3), .val (.int p4), .val (.int n), .val (.int r1), .val (.int r3), .val (.int r5), .val (.int r7), .val (.ref r9), .val (.int wc), .val (.int lc), .val (.ref r13), .val (.ref r19), .unset, .unset, .unset] [])) (fun _ k => XS.icmpNo X19.here hx rfl (hb hby at_149) rfl (feq hc149).1 k) ?_
                refine GoW.via (S' := T19.setTop (mkF m 154 #[.val (.int p1), .val (.int p2), .val (.int p3), .val (.int p4), .val (.int n), .val (.int r1), .val (.int r3), .val (.int r5), .val (.int r7), .val (.ref r9), .val (.int wc), .val (.int lc), .val (.ref r13), .val (.ref r19), .unset, .unset, .unset] [(.int n)])) (fun _ k => XS.iload X19.here hx rfl (hb hby at_152) rfl k) ?_
                refine GoW.via (S' := T19.setTop (mkF m 155 #[.val (.int p1), .val (.int p2), .val (.int p3), .val (.int p4), .val (.int n), .val (.int r1), .val (.int r3), .val (.int r5), .val (.int r7), .val (.ref r9), .val (.int wc), .val (.int lc), .val (.ref r13), .val (.ref r19), .unset, .unset, .unset] [(.int (3 : Int32)), (.int n)])) (fun _ k => XS.iconst X19.here hx rfl (hb hby at_154) k) ?_
                rcases Decidable.em ((3 : Int32) < n) with hc155 | hc155
                · refine GoW.via (S' := T19.setTop (mkF m 158 #[.val (.int p1), .val (.int p2), .val (.int p3), .val (.int p4), .val (.int n), .val (.int r1), .val (.int r3), .val (.int r5), .val (.int r7), .val (.ref r9), .val (.int wc), .val (.int lc), .val (.ref r13), .val (.ref r19), .unset, .unset, .unset] [])) (fun _ k => XS.icmpNo X19.here hx rfl (hb hby at_155) rfl (tlt hc155).2.2.2 k) ?_
                  refine GoW.via (S' := T19.setTop (mkF m 160 #[.val (.int p1), .val (.int p2), .val (.int p3), .val (.int p4), .val (.int n), .val (.int r1), .val (.int r3), .val (.int r5), .val (.int r7), .val (.ref r9), .val (.int wc), .val (.int lc), .val (.ref r13), .val (.ref r19), .unset, .unset, .unset] [(.int r7)])) (fun _ k => XS.iload X19.here hx rfl (hb hby at_158) rfl k) ?_
                  refine GoW.via (S' := T19.setTop (mkF m 162 #[.val (.int p1), .val (.int p2), .val (.int p3), .val (.int p4), .val (.int n), .val (.int r1), .val (.int r3), .val (.int r5), .val (.int r7), .val (.ref r9), .val (.int wc), .val (.int lc), .val (.ref r13), .val (.ref r19), .unset, .unset, .unset] [(.int (46 : Int32)), (.int r7)])) (fun _ k => XS.bipush X19.here hx rfl (hb hby at_160) k) ?_
                  rcases Decidable.em (r7 = (46 : Int32)) with hc162 | hc162
                  · refine GoW.via (S' := T19.setTop (mkF m 165 #[.val (.int p1), .val (.int p2), .val (.int p3), .val (.int p4), .val (.int n), .val (.int r1), .val (.int r3), .val (.int r5), .val (.int r7), .val (.ref r9), .val (.int wc), .val (.int lc), .val (.ref r13), .val (.ref r19), .unset, .unset, .unset] [])) (fun _ k => XS.icmpNo X19.here hx rfl (hb hby at_162) rfl (teq hc162).2 k) ?_
                    refine GoW.via (S' := T19.setTop (mkF m 166 #[.val (.int p1), .val (.int p2), .val (.int p3), .val (.int p4), .val (.int n), .val (.int r1), .val (.int r3), .val (.int r5), .val (.int r7), .val (.ref r9), .val (.int wc), .val (.int lc), .val (.ref r13), .val (.ref r19), .unset, .unset, .unset] [(.int (1 : Int32))])) (fun _ k => XS.iconst X19.here hx rfl (hb hby at_165) k) ?_
                    refine GoW.via (S' := T19.setTop (mkF m 170 #[.val (.int p1), .val (.int p2), .val (.int p3), .val (.int p4), .val (.int n), .val (.int r1), .val (.int r3), .val (.int r5), .val (.int r7), .val (.ref r9), .val (.int wc), .val (.int lc), .val (.ref r13), .val (.ref r19), .unset, .unset, .unset] [(.int (1 : Int32))])) (fun _ k => XS.goto X19.here hx rfl (pc0 := 166) (pc' := 170) rfl (hb hby at_166) (by decide) (by decide) k) ?_
                    exact J170 _ (Or.inl ⟨rfl, (own_hd_iff hn).mpr (Or.inr (Or.inr (Or.inr (⟨hc155, hc162⟩))))⟩)
                  · refine GoW.via (S' := T19.setTop (mkF m 169 #[.val (.int p1), .val (.int p2), .val (.int p3), .val (.int p4), .val (.int n), .val (.int r1), .val (.int r3), .val (.int r5), .val (.int r7), .val (.ref r9), .val (.int wc), .val (.int lc), .val (.ref r13), .val (.ref r19), .unset, .unset, .unset] [])) (fun _ k => XS.icmpYes X19.here hx rfl (pc0 := 162) (pc' := 169) rfl (hb hby at_162) rfl (feq hc162).2 (by decide) (by decide) k) ?_
                    refine GoW.via (S' := T19.setTop (mkF m 170 #[.val (.int p1), .val (.int p2), .val (.int p3), .val (.int p4), .val (.int n), .val (.int r1), .val (.int r3), .val (.int r5), .val (.int r7), .val (.ref r9), .val (.int wc), .val (.int lc), .val (.ref r13), .val (.ref r19), .unset, .unset, .unset] [(.int (0 : Int32))])) (fun _ k => XS.iconst X19.here hx rfl (hb hby at_169) k) ?_
                    exact J170 _ (Or.inr ⟨rfl, fun q => ((own_hd_iff hn).mp q).elim (fun a => hc116 a.1) (fun q => q.elim (fun a => hc136 a.2) (fun q => q.elim (fun a => hc149 a.2) (fun a => hc162 a.2)))⟩)
                · refine GoW.via (S' := T19.setTop (mkF m 169 #[.val (.int p1), .val (.int p2), .val (.int p3), .val (.int p4), .val (.int n), .val (.int r1), .val (.int r3), .val (.int r5), .val (.int r7), .val (.ref r9), .val (.int wc), .val (.int lc), .val (.ref r13), .val (.ref r19), .unset, .unset, .unset] [])) (fun _ k => XS.icmpYes X19.here hx rfl (pc0 := 155) (pc' := 169) rfl (hb hby at_155) rfl (flt hc155).2.2.2 (by decide) (by decide) k) ?_
                  refine GoW.via (S' := T19.setTop (mkF m 170 #[.val (.int p1), .val (.int p2), .val (.int p3), .val (.int p4), .val (.int n), .val (.int r1), .val (.int r3), .val (.int r5), .val (.int r7), .val (.ref r9), .val (.int wc), .val (.int lc), .val (.ref r13), .val (.ref r19), .unset, .unset, .unset] [(.int (0 : Int32))])) (fun _ k => XS.iconst X19.here hx rfl (hb hby at_169) k) ?_
                  exact J170 _ (Or.inr ⟨rfl, fun q => ((own_hd_iff hn).mp q).elim (fun a => hc116 a.1) (fun q => q.elim (fun a => hc136 a.2) (fun q => q.elim (fun a => hc149 a.2) (fun a => hc155 a.1)))⟩)
            · refine GoW.via (S' := T19.setTop (mkF m 152 #[.val (.int p1), .val (.int p2), .val (.int p3), .val (.int p4), .val (.int n), .val (.int r1), .val (.int r3), .val (.int r5), .val (.int r7), .val (.ref r9), .val (.int wc), .val (.int lc), .val (.ref r13), .val (.ref r19), .unset, .unset, .unset] [])) (fun _ k => XS.icmpYes X19.here hx rfl (pc0 := 142) (pc' := 152) rfl (hb hby at_142) rfl (flt hc142).2.2.2 (by decide) (by decide) k) ?_
              refine GoW.via (S' := T19.setTop (mkF m 154 #[.val (.int p1), .val (.int p2), .val (.int p3), .val (.int p4), .val (.int n), .val (.int r1), .val (.int r3), .val (.int r5), .val (.int r7), .val (.ref r9), .val (.int wc), .val (.int lc), .val (.ref r13), .val (.ref r19), .unset, .unset, .unset] [(.int n)])) (fun _ k => XS.iload X19.here hx rfl (hb hby at_152) rfl k) ?_
              refine GoW.via (S' := T19.setTop (mkF m 155 #[.val (.int p1), .val (.int p2), .val (.int p3), .val (.int p4), .val (.int n), .val (.int r1), .val (.int r3), .val (.int r5), .val (.int r7), .val (.ref r9), .val (.int wc), .val (.int lc), .val (.ref r13), .val (.ref r19), .unset, .unset, .unset] [(.int (3 : Int32)), (.int n)])) (fun _ k => XS.iconst X19.here hx rfl (hb hby at_154) k) ?_
              rcases Decidable.em ((3 : Int32) < n) with hc155 | hc155
              · refine GoW.via (S' := T19.setTop (mkF m 158 #[.val (.int p1), .val (.int p2), .val (.int p3), .val (.int p4), .val (.int n), .val (.int r1), .val (.int r3), .val (.int r5), .val (.int r7), .val (.ref r9), .val (.int wc), .val (.int lc), .val (.ref r13), .val (.ref r19), .unset, .unset, .unset] [])) (fun _ k => XS.icmpNo X19.here hx rfl (hb hby at_155) rfl (tlt hc155).2.2.2 k) ?_
                refine GoW.via (S' := T19.setTop (mkF m 160 #[.val (.int p1), .val (.int p2), .val (.int p3), .val (.int p4), .val (.int n), .val (.int r1), .val (.int r3), .val (.int r5), .val (.int r7), .val (.ref r9), .val (.int wc), .val (.int lc), .val (.ref r13), .val (.ref r19), .unset, .unset, .unset] [(.int r7)])) (fun _ k => XS.iload X19.here hx rfl (hb hby at_158) rfl k) ?_
                refine GoW.via (S' := T19.setTop (mkF m 162 #[.val (.int p1), .val (.int p2), .val (.int p3), .val (.int p4), .val (.int n), .val (.int r1), .val (.int r3), .val (.int r5), .val (.int r7), .val (.ref r9), .val (.int wc), .val (.int lc), .val (.ref r13), .val (.ref r19), .unset, .unset, .unset] [(.int (46 : Int32)), (.int r7)])) (fun _ k => XS.bipush X19.here hx rfl (hb hby at_160) k) ?_
                rcases Decidable.em (r7 = (46 : Int32)) with hc162 | hc162
                · refine GoW.via (S' := T19.setTop (mkF m 165 #[.val (.int p1), .val (.int p2), .val (.int p3), .val (.int p4), .val (.int n), .val (.int r1), .val (.int r3), .val (.int r5), .val (.int r7), .val (.ref r9), .val (.int wc), .val (.int lc), .val (.ref r13), .val (.ref r19), .unset, .unset, .unset] [])) (fun _ k => XS.icmpNo X19.here hx rfl (hb hby at_162) rfl (teq hc162).2 k) ?_
                  refine GoW.via (S' := T19.setTop (mkF m 166 #[.val (.int p1), .val (.int p2), .val (.int p3), .val (.int p4), .val (.int n), .val (.int r1), .val (.int r3), .val (.int r5), .val (.int r7), .val (.ref r9), .val (.int wc), .val (.int lc), .val (.ref r13), .val (.ref r19), .unset, .unset, .unset] [(.int (1 : Int32))])) (fun _ k => XS.iconst X19.here hx rfl (hb hby at_165) k) ?_
                  refine GoW.via (S' := T19.setTop (mkF m 170 #[.val (.int p1), .val (.int p2), .val (.int p3), .val (.int p4), .val (.int n), .val (.int r1), .val (.int r3), .val (.int r5), .val (.int r7), .val (.ref r9), .val (.int wc), .val (.int lc), .val (.ref r13), .val (.ref r19), .unset, .unset, .unset] [(.int (1 : Int32))])) (fun _ k => XS.goto X19.here hx rfl (pc0 := 166) (pc' := 170) rfl (hb hby at_166) (by decide) (by decide) k) ?_
                  exact J170 _ (Or.inl ⟨rfl, (own_hd_iff hn).mpr (Or.inr (Or.inr (Or.inr (⟨hc155, hc162⟩))))⟩)
                · refine GoW.via (S' := T19.setTop (mkF m 169 #[.val (.int p1), .val (.int p2), .val (.int p3), .val (.int p4), .val (.int n), .val (.int r1), .val (.int r3), .val (.int r5), .val (.int r7), .val (.ref r9), .val (.int wc), .val (.int lc), .val (.ref r13), .val (.ref r19), .unset, .unset, .unset] [])) (fun _ k => XS.icmpYes X19.here hx rfl (pc0 := 162) (pc' := 169) rfl (hb hby at_162) rfl (feq hc162).2 (by decide) (by decide) k) ?_
                  refine GoW.via (S' := T19.setTop (mkF m 170 #[.val (.int p1), .val (.int p2), .val (.int p3), .val (.int p4), .val (.int n), .val (.int r1), .val (.int r3), .val (.int r5), .val (.int r7), .val (.ref r9), .val (.int wc), .val (.int lc), .val (.ref r13), .val (.ref r19), .unset, .unset, .unset] [(.int (0 : Int32))])) (fun _ k => XS.iconst X19.here hx rfl (hb hby at_169) k) ?_
                  exact J170 _ (Or.inr ⟨rfl, fun q => ((own_hd_iff hn).mp q).elim (fun a => hc116 a.1) (fun q => q.elim (fun a => hc136 a.2) (fun q => q.elim (fun a => hc142 a.1) (fun a => hc162 a.2)))⟩)
              · refine GoW.via (S' := T19.setTop (mkF m 169 #[.val (.int p1), .val (.int p2), .val (.int p3), .val (.int p4), .val (.int n), .val (.int r1), .val (.int r3), .val (.int r5), .val (.int r7), .val (.ref r9), .val (.int wc), .val (.int lc), .val (.ref r13), .val (.ref r19), .unset, .unset, .unset] [])) (fun _ k => XS.icmpYes X19.here hx rfl (pc0 := 155) (pc' := 169) rfl (hb hby at_155) rfl (flt hc155).2.2.2 (by decide) (by decide) k) ?_
                refine GoW.via (S' := T19.setTop (mkF m 170 #[.val (.int p1), .val (.int p2), .val (.int p3), .val (.int p4), .val (.int n), .val (.int r1), .val (.int r3), .val (.int r5), .val (.int r7), .val (.ref r9), .val (.int wc), .val (.int lc), .val (.ref r13), .val (.ref r19), .unset, .unset, .unset] [(.int (0 : Int32))])) (fun _ k => XS.iconst X19.here hx rfl (hb hby at_169) k) ?_
                exact J170 _ (Or.inr ⟨rfl, fun q => ((own_hd_iff hn).mp q).elim (fun a => hc116 a.1) (fun q => q.elim (fun a => hc136 a.2) (fun q => q.elim (fun a => hc142 a.1) (fun a => hc155 a.1)))⟩)
        · refine GoW.via (S' := T19.setTop (mkF m 139 #[.val (.int p1), .val (.int p2), .val (.int p3), .val (.int p4), .val (.int n), .val (.int r1), .val (.int r3), .val (.int r5), .val (.int r7), .val (.ref r9), .val (.int wc), .val (.int lc), .val (.ref r13), .val (.ref r19), .unset, .unset, .unset] [])) (fun _ k => XS.icmpYes X19.here hx rfl (pc0 := 129) (pc' := 139) rfl (hb hby at_129) rfl (flt hc129).2.2.2 (by decide) (by decide) k) ?_
          refine GoW.via (S' := T19.setTop (mkF m 141 #[.val (.int p1), .val (.int p2), .val (.int p3), .val (.int p4), .val (.int n), .val (.int r1), .val (.int r3), .val (.int r5), .val (.int r7), .val (.ref r9), .val (.int wc), .val (.int lc), .val (.ref r13), .val (.ref r19), .unset, .unset, .unset] [(.int n)])) (fun _ k => XS.iload X19.here hx rfl (hb hby at_139) rfl k) ?_
          refine GoW.via (S' := T19.setTop (mkF m 142 #[.val (.int p1), .val (.int p2), .val (.int p3), .val (.int p4), .val (.int n), .val (.int r1), .val (.int r3), .val (.int r5), .val (.int r7), .val (.ref r9), .val (.int wc), .val (.int lc), .val (.ref r13), .val (.ref r19), .unset, .unset, .unset] [(.int (2 : Int32)), (.int n)])) (fun _ k => XS.iconst X19.here hx rfl (hb hby at_141) k) ?_
          rcases Decidable.em ((2 : Int32) < n) with hc142 | hc142
          · refine GoW.via (S' := T19.setTop (mkF m 145 #[.val (.int p1), .val (.int p2), .val (.int p3), .val (.int p4), .val (.int n), .val (.int r1), .val (.int r3), .val (.int r5), .val (.int r7), .val (.ref r9), .val (.int wc), .val (.int lc), .val (.ref r13), .val (.ref r19), .unset, .unset, .unset] [])) (fun _ k => XS.icmpNo X19.here hx rfl (hb hby at_142) rfl (tlt hc142).2.2.2 k) ?_
            refine GoW.via (S' := T19.setTop (mkF m 147 #[.val (.int p1), .val (.int p2), .val (.int p3), .val (.int p4), .val (.int n), .val (.int r1), .val (.int r3), .val (.int r5), .val (.int r7), .val (.ref r9), .val (.int wc), .val (.int lc), .val (.ref r13), .val (.ref r19), .unset, .unset, .unset] [(.int r5)])) (fun _ k => XS.iload X19.here hx rfl (hb hby at_145) rfl k) ?_
            refine GoW.via (S' := T19.setTop (mkF m 149 #[.val (.int p1), .val (.int p2), .val (.int p3), .val (.int p4), .val (.int n), .val (.int r1), .val (.int r3), .val (.int r5), .val (.int r7), .val (.ref r9), .val (.int wc), .val (.int lc), .val (.ref r13), .val (.ref r19), .unset, .unset, .unset] [(.int (46 : Int32)), (.int r5)])) (fun _ k => XS.bipush X19.here hx rfl (hb hby at_147) k) ?_
            rcases Decidable.em (r5 = (46 : Int32)) with hc149 | hc149
            · refine GoW.via (S' := T19.setTop (mkF m 165 #[.val (.int p1), .val (.int p2), .val (.int p3), .val (.int p4), .val (.int n), .val (.int r1), .val (.int r3), .val (.int r5), .val (.int r7), .val (.ref r9), .val (.int wc), .val (.int lc), .val (.ref r13), .val (.ref r19), .unset, .unset, .unset] [])) (fun _ k => XS.icmpYes X19.here hx rfl (pc0 := 149) (pc' := 165) rfl (hb hby at_149) rfl (teq hc149).1 (by decide) (by decide) k) ?_
              refine GoW.via (S' := T19.setTop (mkF m 166 #[.val (.int p1), .val (.int p2), .val (.int p3), .val (.int p4), .val (.int n), .val (.int r1), .val (.int r3), .val (.int r5), .val (.int r7), .val (.ref r9), .val (.int wc), .val (.int lc), .val (.ref r13), .val (.ref r19), .unset, .unset, .unset] [(.int (1 : Int32))])) (fun _ k => XS.iconst X19.here hx rfl (hb hby at_165) k) ?_
              refine GoW.via (S' := T19.setTop (mkF m 170 #[.val (.int p1), .val (.int p2), .val (.int p3), .val (.int p4), .val (.int n), .val (.int r1), .val (.int r3), .val (.int r5), .val (.int r7), .val (.ref r9), .val (.int wc), .val (.int lc), .val (.ref r13), .val (.ref r19), .unset, .unset, .unset] [(.int (1 : Int32))])) (fun _ k => XS.goto X19.here hx rfl (pc0 := 166) (pc' := 170) rfl (hb hby at_166) (by decide) (by decide) k) ?_
              exact J170 _ (Or.inl ⟨rfl, (own_hd_iff hn).mpr (Or.inr (Or.inr (Or.inl ⟨hc142, hc149⟩)))⟩)
            · refine GoW.via (S' := T19.setTop (mkF m 152 #[.val (.int p1), .val (.int p2), .val (.int p3), .val (.int p4), .val (.int n), .val (.int r1), .val (.int r3), .val (.int r5), .val (.int r7), .val (.ref r9), .val (.int wc), .val (.int lc), .val (.ref r13), .val (.ref r19), .unset, .unset, .unset] [])) (fun _ k => XS.icmpNo X19.here hx rfl (hb hby at_149) rfl (feq hc149).1 k) ?_
              refine GoW.via (S' := T19.setTop (mkF m 154 #[.val (.int p1), .val (.int p2), .val (.int p3), .val (.int p4), .val (.int n), .val (.int r1), .val (.int r3), .val (.int r5), .val (.int r7), .val (.ref r9), .val (.int wc), .val (.int lc), .val (.ref r13), .val (.ref r19), .unset, .unset, .unset] [(.int n)])) (fun _ k => XS.iload X19.here hx rfl (hb hby at_152) rfl k) ?_
              refine GoW.via (S' := T19.setTop (mkF m 155 #[.val (.int p1), .val (.int p2), .val (.int p3), .val (.int p4), .val (.int n), .val (.int r1), .val (.int r3), .val (.int r5), .val (.int r7), .val (.ref r9), .val (.int wc), .val (.int lc), .val (.ref r13), .val (.ref r19), .unset, .unset, .unset] [(.int (3 : Int32)), (.int n)])) (fun _ k => XS.iconst X19.here hx rfl (hb hby at_154) k) ?_
              rcases Decidable.em ((3 : Int32) < n) with hc155 | hc155
              · refine GoW.via (S' := T19.setTop (mkF m 158 #[.val (.int p1), .val (.int p2), .val (.int p3), .val (.int p4), .val (.int n), .val (.int r1), .val (.int r3), .val (.int r5), .val (.int r7), .val (.ref r9), .val (.int wc), .val (.int lc), .val (.ref r13), .val (.ref r19), .unset, .unset, .unset] [])) (fun _ k => XS.icmpNo X19.here hx rfl (hb hby at_155) rfl (tlt hc155).2.2.2 k) ?_
                refine GoW.via (S' := T19.setTop (mkF m 160 #[.val (.int p1), .val (.int p2), .val (.int p3), .val (.int p4), .val (.int n), .val (.int r1), .val (.int r3), .val (.int r5), .val (.int r7), .val (.ref r9), .val (.int wc), .val (.int lc), .val (.ref r13), .val (.ref r19), .unset, .unset, .unset] [(.int r7)])) (fun _ k => XS.iload X19.here hx rfl (hb hby at_158) rfl k) ?_
                refine GoW.via (S' := T19.setTop (mkF m 162 #[.val (.int p1), .val (.int p2), .val (.int p3), .val (.int p4), .val (.int n), .val (.int r1), .val (.int r3), .val (.int r5), .val (.int r7), .val (.ref r9), .val (.int wc), .val (.int lc), .val (.ref r13), .val (.ref r19), .unset, .unset, .unset] [(.int (46 : Int32)), (.int r7)])) (fun _ k => XS.bipush X19.here hx rfl (hb hby at_160) k) ?_
                rcases Decidable.em (r7 = (46 : Int32)) with hc162 | hc162
                · refine GoW.via (S' := T19.setTop (mkF m 165 #[.val (.int p1), .val (.int p2), .val (.int p3), .val (.int p4), .val (.int n), .val (.int r1), .val (.int r3), .val (.int r5), .val (.int r7), .val (.ref r9), .val (.int wc), .val (.int lc), .val (.ref r13), .val (.ref r19), .unset, .unset, .unset] [])) (fun _ k => XS.icmpNo X19.here hx rfl (hb hby at_162) rfl (teq hc162).2 k) ?_
                  refine GoW.via (S' := T19.setTop (mkF m 166 #[.val (.int p1), .val (.int p2), .val (.int p3), .val (.int p4), .val (.int n), .val (.int r1), .val (.int r3), .val (.int r5), .val (.int r7), .val (.ref r9), .val (.int wc), .val (.int lc), .val (.ref r13), .val (.ref r19), .unset, .unset, .unset] [(.int (1 : Int32))])) (fun _ k => XS.iconst X19.here hx rfl (hb hby at_165) k) ?_
                  refine GoW.via (S' := T19.setTop (mkF m 170 #[.val (.int p1), .val (.int p2), .val (.int p3), .val (.int p4), .val (.int n), .val (.int r1), .val (.int r3), .val (.int r5), .val (.int r7), .val (.ref r9), .val (.int wc), .val (.int lc), .val (.ref r13), .val (.ref r19), .unset, .unset, .unset] [(.int (1 : Int32))])) (fun _ k => XS.goto X19.here hx rfl (pc0 := 166) (pc' := 170) rfl (hb hby at_166) (by decide) (by decide) k) ?_
                  exact J170 _ (Or.inl ⟨rfl, (own_hd_iff hn).mpr (Or.inr (Or.inr (Or.inr (⟨hc155, hc162⟩))))⟩)
                · refine GoW.via (S' := T19.setTop (mkF m 169 #[.val (.int p1), .val (.int p2), .val (.int p3), .val (.int p4), .val (.int n), .val (.int r1), .val (.int r3), .val (.int r5), .val (.int r7), .val (.ref r9), .val (.int wc), .val (.int lc), .val (.ref r13), .val (.ref r19), .unset, .unset, .unset] [])) (fun _ k => XS.icmpYes X19.here hx rfl (pc0 := 162) (pc' := 169) rfl (hb hby at_162) rfl (feq hc162).2 (by decide) (by decide) k) ?_
                  refine GoW.via (S' := T19.setTop (mkF m 170 #[.val (.int p1), .val (.int p2), .val (.int p3), .val (.int p4), .val (.int n), .val (.int r1), .val (.int r3), .val (.int r5), .val (.int r7), .val (.ref r9), .val (.int wc), .val (.int lc), .val (.ref r13), .val (.ref r19), .unset, .unset, .unset] [(.int (0 : Int32))])) (fun _ k => XS.iconst X19.here hx rfl (hb hby at_169) k) ?_
                  exact J170 _ (Or.inr ⟨rfl, fun q => ((own_hd_iff hn).mp q).elim (fun a => hc116 a.1) (fun q => q.elim (fun a => hc129 a.1) (fun q => q.elim (fun a => hc149 a.2) (fun a => hc162 a.2)))⟩)
              · refine GoW.via (S' := T19.setTop (mkF m 169 #[.val (.int p1), .val (.int p2), .val (.int p3), .val (.int p4), .val (.int n), .val (.int r1), .val (.int r3), .val (.int r5), .val (.int r7), .val (.ref r9), .val (.int wc), .val (.int lc), .val (.ref r13), .val (.ref r19), .unset, .unset, .unset] [])) (fun _ k => XS.icmpYes X19.here hx rfl (pc0 := 155) (pc' := 169) rfl (hb hby at_155) rfl (flt hc155).2.2.2 (by decide) (by decide) k) ?_
                refine GoW.via (S' := T19.setTop (mkF m 170 #[.val (.int p1), .val (.int p2), .val (.int p3), .val (.int p4), .val (.int n), .val (.int r1), .val (.int r3), .val (.int r5), .val (.int r7), .val (.ref r9), .val (.int wc), .val (.int lc), .val (.ref r13), .val (.ref r19), .unset, .unset, .unset] [(.int (0 : Int32))])) (fun _ k => XS.iconst X19.here hx rfl (hb hby at_169) k) ?_
                exact J170 _ (Or.inr ⟨rfl, fun q => ((own_hd_iff hn).mp q).elim (fun a => hc116 a.1) (fun q => q.elim (fun a => hc129 a.1) (fun q => q.elim (fun a => hc149 a.2) (fun a => hc155 a.1)))⟩)
          · refine GoW.via (S' := T19.setTop (mkF m 152 #[.val (.int p1), .val (.int p2), .val (.int p3), .val (.int p4), .val (.int n), .val (.int r1), .val (.int r3), .val (.int r5), .val (.int r7), .val (.ref r9), .val (.int wc), .val (.int lc), .val (.ref r13), .val (.ref r19), .unset, .unset, .unset] [])) (fun _ k => XS.icmpYes X19.here hx rfl (pc0 := 142) (pc' := 152) rfl (hb hby at_142) rfl (flt hc142).2.2.2 (by decide) (by decide) k) ?_
            refine GoW.via (S' := T19.setTop (mkF m 154 #[.val (.int p1), .val (.int p2), .val (.int p3), .val (.int p4), .val (.int n), .val (.int r1), .val (.int r3), .val (.int r5), .val (.int r7), .val (.ref r9), .val (.int wc), .val (.int lc), .val (.ref r13), .val (.ref r19), .unset, .unset, .unset] [(.int n)])) (fun _ k => XS.iload X19.here hx rfl (hb hby at_152) rfl k) ?_
            refine GoW.via (S' := T19.setTop (mkF m 155 #[.val (.int p1), .val (.int p2), .val (.int p3), .val (.int p4), .val (.int n), .val (.int r1), .val (.int r3), .val (.int r5), .val (.int r7), .val (.ref r9), .val (.int wc), .val (.int lc), .val (.ref r13), .val (.ref r19), .unset, .unset, .unset] [(.int (3 : Int32)), (.int n)])) (fun _ k => XS.iconst X19.here hx rfl (hb hby at_154) k) ?_
            rcases Decidable.em ((3 : Int32) < n) with hc155 | hc155
            · refine GoW.via (S' := T19.setTop (mkF m 158 #[.val (.int p1), .val (.int p2), .val (.int p3), .val (.int p4), .val (.int n), .val (.int r1), .val (.int r3), .val (.int r5), .val (.int r7), .val (.ref r9), .val (.int wc), .val (.int lc), .val (.ref r13), .val (.ref r19), .unset, .unset, .unset] [])) (fun _ k => XS.icmpNo X19.here hx rfl (hb hby at_155) rfl (tlt hc155).2.2.2 k) ?_
              refine GoW.via (S' := T19.setTop (mkF m 160 #[.val (.int p1), .val (.int p2), .val (.int p3), .val (.int p4), .val (.int n), .val (.int r1), .val (.int r3), .val (.int r5), .val (.int r7), .val (.ref r9), .val (.int wc), .val (.int lc), .val (.ref r13), .val (.ref r19), .unset, .unset, .unset] [(.int r7)])) (fun _ k => XS.iload X19.here hx rfl (hb hby at_158) rfl k) ?_
              refine GoW.via (S' := T19.setTop (mkF m 162 #[.val (.int p1), .val (.int p2), .val (.int p3), .val (.int p4), .val (.int n), .val (.int r1), .val (.int r3), .val (.int r5), .val (.int r7), .val (.ref r9), .val (.int wc), .val (.int lc), .val (.ref r13), .val (.ref r19), .unset, .unset, .unset] [(.int (46 : Int32)), (.int r7)])) (fun _ k => XS.bipush X19.here hx rfl (hb hby at_160) k) ?_
              rcases Decidable.em (r7 = (46 : Int32)) with hc162 | hc162
              · refine GoW.via (S' := T19.setTop (mkF m 165 #[.val (.int p1), .val (.int p2), .val (.int p3), .val (.int p4), .val (.int n), .val (.int r1), .val (.int r3), .val (.int r5), .val (.int r7), .val (.ref r9), .val (.int wc), .val (.int lc), .val (.ref r13), .val (.ref r19), .unset, .unset, .unset] [])) (fun _ k => XS.icmpNo X19.here hx rfl (hb hby at_162) rfl (teq hc162).2 k) ?_
                refine GoW.via (S' := T19.setTop (mkF m 166 #[.val (.int p1), .val (.int p2), .val (.int p3), .val (.int p4), .val (.int n), .val (.int r1), .val (.int r3), .val (.int r5), .val (.int r7), .val (.ref r9), .val (.int wc), .val (.int lc), .val (.ref r13), .val (.ref r19), .unset, .unset, .unset] [(.int (1 : Int32))])) (fun _ k => XS.iconst X19.here hx rfl (hb hby at_165) k) ?_
                refine GoW.via (S' := T19.setTop (mkF m 170 #[.val (.int p1), .val (.int p2), .val (.int p3), .val (.int p4), .val (.int n), .val (.int r1), .val (.int r3), .val (.int r5), .val (.int r7), .val (.ref r9), .val (.int wc), .val (.int lc), .val (.ref r13), .val (.ref r19), .unset, .unset, .unset] [(.int (1 : Int32))])) (fun _ k => XS.goto X19.here hx rfl (pc0 := 166) (pc' := 170) rfl (hb hby at_166) (by decide) (by decide) k) ?_
                exact J170 _ (Or.inl ⟨rfl, (own_hd_iff hn).mpr (Or.inr (Or.inr (Or.inr (⟨hc155, hc162⟩))))⟩)
              · refine GoW.via (S' := T19.setTop (mkF m 169 #[.val (.int p1), .val (.int p2), .val (.int p3), .val (.int p4), .val (.int n), .val (.int r1), .val (.int r3), .val (.int r5), .val (.int r7), .val (.ref r9), .val (.int wc), .val (.int lc), .val (.ref r13), .val (.ref r19), .unset, .unset, .unset] [])) (fun _ k => XS.icmpYes X19.here hx rfl (pc0 := 162) (pc' := 169) rfl (hb hby at_162) rfl (feq hc162).2 (by decide) (by decide) k) ?_
                refine GoW.via (S' := T19.setTop (mkF m 170 #[.val (.int p1), .val (.int p2), .val (.int p3), .val (.int p4), .val (.int n), .val (.int r1), .val (.int r3), .val (.int r5), .val (.int r7), .val (.ref r9), .val (.int wc), .val (.int lc), .val (.ref r13), .val (.ref r19), .unset, .unset, .unset] [(.int (0 : Int32))])) (fun _ k => XS.iconst X19.here hx rfl (hb hby at_169) k) ?_
                exact J170 _ (Or.inr ⟨rfl, fun q => ((own_hd_iff hn).mp q).elim (fun a => hc116 a.1) (fun q => q.elim (fun a => hc129 a.1) (fun q => q.elim (fun a => hc142 a.1) (fun a => hc162 a.2)))⟩)
            · refine GoW.via (S' := T19.setTop (mkF m 169 #[.val (.int p1), .val (.int p2), .val (.int p3), .val (.int p4), .val (.int n), .val (.int r1), .val (.int r3), .val (.int r5), .val (.int r7), .val (.ref r9), .val (.int wc), .val (.int lc), .val (.ref r13), .val (.ref r19), .unset, .unset, .unset] [])) (fun _ k => XS.icmpYes X19.here hx rfl (pc0 := 155) (pc' := 169) rfl (hb hby at_155) rfl (flt hc155).2.2.2 (by decide) (by decide) k) ?_
              refine GoW.via (S' := T19.setTop (mkF m 170 #[.val (.int p1), .val (.int p2), .val (.int p3), .val (.int p4), .val (.int n), .val (.int r1), .val (.int r3), .val (.int r5), .val (.int r7), .val (.ref r9), .val (.int wc), .val (.int lc), .val (.ref r13), .val (.ref r19), .unset, .unset, .unset] [(.int (0 : Int32))])) (fun _ k => XS.iconst X19.here hx rfl (hb hby at_169) k) ?_
              exact J170 _ (Or.inr ⟨rfl, fun q => ((own_hd_iff hn).mp q).elim (fun a => hc116 a.1) (fun q => q.elim (fun a => hc129 a.1) (fun q => q.elim (fun a => hc142 a.1) (fun a => hc155 a.1)))⟩)
    intro ex hex
    rcases hex with ⟨rfl, hex⟩ | ⟨rfl, hex⟩
    · refine GoW.via (S' := T19.setTop (mkF m 172 #[.val (.int p1), .val (.int p2), .val (.int p3), .val (.int p4), .val (.int n), .val (.int r1), .val (.int r3), .val (.int r5), .val (.int r7), .val (.ref r9), .val (.int wc), .val (.int lc), .val (.ref r13), .val (.ref r19), .val (.int (1 : Int32)), .unset, .unset] [])) (fun _ k => XS.istore X19.here hx rfl (hb hby at_170) rfl (l' := #[.val (.int p1), .val (.int p2), .val (.int p3), .val (.int p4), .val (.int n), .val (.int r1), .val (.int r3), .val (.int r5), .val (.int r7), .val (.ref r9), .val (.int wc), .val (.int lc), .val (.ref r13), .val (.ref r19), .val (.int (1 : Int32)), .unset, .unset]) rfl k) ?_
      obtain ⟨T25, h25, X25, e25, E25, A25, D25, -, st25⟩ := newO X19 hx hZ hown (hw _ (List.mem_of_getElem? (i := 52) rfl)) (hw _ (List.mem_of_getElem? (i := 53) rfl)) (hw _ (List.mem_of_getElem? (i := 54) rfl)) rfl (g := (mkF m 172 #[.val (.int p1), .val (.int p2), .val (.int p3), .val (.int p4), .val (.int n), .val (.int r1), .val (.int r3), .val (.int r5), .val (.int r7), .val (.ref r9), .val (.int wc), .val (.int lc), .val (.ref r13), .val (.ref r19), .val (.int (1 : Int32)), .unset, .unset] [])) rfl (hb hby at_172) (by decide) (by decide)
      obtain ⟨b25, g25⟩ : ∃ z, z = T19.heap.size := ⟨_, rfl⟩
      rw [← g25] at A25 D25 st25
      have ne26 : r9 ≠ b25 := Nat.ne_of_lt (Nat.lt_of_lt_of_le f22.lt (Nat.le_of_eq g25.symm))
      have ne27 : t9 ≠ b25 := Nat.ne_of_lt (Nat.lt_of_lt_of_le f22.lt2 (Nat.le_of_eq g25.symm))
      have g28 : n0 ≤ b25 := Nat.le_trans z23 (Nat.le_of_eq g25.symm)
      have f29 := f21.ext E25
      have f30 := f22.ext E25
      have z31 := Nat.le_trans z23 E25.1
      have hk32 := Nat.le_trans hk24 E25.1
      have F33 : Fld Z h25 b25 "com/example/amendatory/amendatory/ProvisionName" "word" "Ljava/lang/String;" .null := D25 (Or.inr (hw _ (List.mem_of_getElem? (i := 63) rfl))) (ty := (.object "java/lang/String")) (by decide)
      have F34 : Fld Z h25 b25 "com/example/amendatory/amendatory/ProvisionName" "number" "Ljava/lang/String;" .null := D25 (Or.inr (hw _ (List.mem_of_getElem? (i := 65) rfl))) (ty := (.object "java/lang/String")) (by decide)
      have F35 : Fld Z h25 b25 "com/example/amendatory/amendatory/ProvisionName" "paragraph" "Ljava/lang/String;" .null := D25 (Or.inr (hw _ (List.mem_of_getElem? (i := 67) rfl))) (ty := (.object "java/lang/String")) (by decide)
      refine GoW.via (S' := T25.setTop (mkF m 175 #[.val (.int p1), .val (.int p2), .val (.int p3), .val (.int p4), .val (.int n), .val (.int r1), .val (.int r3), .val (.int r5), .val (.int r7), .val (.ref r9), .val (.int wc), .val (.int lc), .val (.ref r13), .val (.ref r19), .val (.int (1 : Int32)), .unset, .unset] [(.ref b25)])) (fun _ k => st25 _ k) ?_
      refine GoW.via (S' := T25.setTop (mkF m 176 #[.val (.int p1), .val (.int p2), .val (.int p3), .val (.int p4), .val (.int n), .val (.int r1), .val (.int r3), .val (.int r5), .val (.int r7), .val (.ref r9), .val (.int wc), .val (.int lc), .val (.ref r13), .val (.ref r19), .val (.int (1 : Int32)), .unset, .unset] [(.ref b25), (.ref b25)])) (fun _ k => XS.dup X25.here hx rfl (hb hby at_175) rfl rfl k) ?_
      refine GoW.via (S' := T25.setTop (mkF m 178 #[.val (.int p1), .val (.int p2), .val (.int p3), .val (.int p4), .val (.int n), .val (.int r1), .val (.int r3), .val (.int r5), .val (.int r7), .val (.ref r9), .val (.int wc), .val (.int lc), .val (.ref r13), .val (.ref r19), .val (.int (1 : Int32)), .unset, .unset] [(.ref r13), (.ref b25), (.ref b25)])) (fun _ k => XS.aload X25.here hx rfl (hb hby at_176) rfl rfl k) ?_
      refine GoW.via (S' := T25.setTop (mkF m 180 #[.val (.int p1), .val (.int p2), .val (.int p3), .val (.int p4), .val (.int n), .val (.int r1), .val (.int r3), .val (.int r5), .val (.int r7), .val (.ref r9), .val (.int wc), .val (.int lc), .val (.ref r13), .val (.ref r19), .val (.int (1 : Int32)), .unset, .unset] [(.ref r9), (.ref r13), (.ref b25), (.ref b25)])) (fun _ k => XS.aload X25.here hx rfl (hb hby at_178) rfl rfl k) ?_
      obtain ⟨_, _, ⟨T36, L36, k36, n36⟩, -, X36, ⟨Lc36, hQ36, l36, y36, z36⟩, st36⟩ := X25.specialBack hx (y := (⟨"com/example/amendatory/amendatory/ProvisionName", "<init>", "(Ljava/lang/String;Ljava/lang/String;)V"⟩ : MethodName)) rfl hown (mvT hZ (hw _ (List.mem_of_getElem? (i := 55) rfl))) (mvT hZ (hw _ (List.mem_of_getElem? (i := 56) rfl))) (mvT hZ (hw _ (List.mem_of_getElem? (i := 57) rfl))) (by decide) (backOf (W := 1) (rm13 l Z a0 hw [] b25 r13 r9 h25 n0 z31 A25 F33 F34 F35 g28) hZ (hw _ (List.mem_of_getElem? (i := 57) rfl)) (hw _ (List.mem_of_getElem? (i := 54) rfl)) (by decide) (by decide)) (g := (mkF m 180 #[.val (.int p1), .val (.int p2), .val (.int p3), .val (.int p4), .val (.int n), .val (.int r1), .val (.int r3), .val (.int r5), .val (.int r7), .val (.ref r9), .val (.int wc), .val (.int lc), .val (.ref r13), .val (.ref r19), .val (.int (1 : Int32)), .unset, .unset] [(.ref r9), (.ref r13), (.ref b25), (.ref b25)])) rfl (by rw [hml]; rfl) (Steps.refl _) (a := b25) (argsL := [(.ref r13), (.ref r9)]) (rest := [(.ref b25)]) (lenOf pd_15 rfl) rfl (by show 2 * 0 + _ ≤ _; exact Nat.le_of_eq rfl) (hb hby at_180) (fun _ _ => ⟨rfl, e25, (by decide : 7 + 0 ≤ _), (by decide : 17 + 0 ≤ _)⟩)
      dsimp only [Pt.U, Pt.locs, Pt.cells, Pt.slots] at X36 l36 y36 z36 st36 hQ36
      subst l36 y36 z36
      obtain ⟨rfl, N36q, K36, Fw36, Fn36⟩ := hQ36
      have N37 := Fr.app N20 N36q
      have f38 := f29.keep K36 (allS g28 all0)
      have f39 := f30.keep K36 (ninS ne26 nin0) (ninS ne27 nin0)
      have f40 := A25.keep K36
      have z41 := Nat.le_trans z31 K36.1
      have hk42 := Nat.le_trans hk32 K36.1
      refine GoW.via (S' := T36.setTop (mkF m 183 #[.val (.int p1), .val (.int p2), .val (.int p3), .val (.int p4), .val (.int n), .val (.int r1), .val (.int r3), .val (.int r5), .val (.int r7), .val (.ref r9), .val (.int wc), .val (.int lc), .val (.ref r13), .val (.ref r19), .val (.int (1 : Int32)), .unset, .unset] [(.ref b25)])) (fun _ k => st36.trans k) ?_
      refine GoW.via (S' := T36.setTop (mkF m 185 #[.val (.int p1), .val (.int p2), .val (.int p3), .val (.int p4), .val (.int n), .val (.int r1), .val (.int r3), .val (.int r5), .val (.int r7), .val (.ref r9), .val (.int wc), .val (.int lc), .val (.ref r13), .val (.ref r19), .val (.int (1 : Int32)), .val (.ref b25), .unset] [])) (fun _ k => XS.astore X36.here hx rfl (hb hby at_183) rfl rfl (l' := #[.val (.int p1), .val (.int p2), .val (.int p3), .val (.int p4), .val (.int n), .val (.int r1), .val (.int r3), .val (.int r5), .val (.int r7), .val (.ref r9), .val (.int wc), .val (.int lc), .val (.ref r13), .val (.ref r19), .val (.int (1 : Int32)), .val (.ref b25), .unset]) rfl k) ?_
      refine GoW.via (S' := T36.setTop (mkF m 187 #[.val (.int p1), .val (.int p2), .val (.int p3), .val (.int p4), .val (.int n), .val (.int r1), .val (.int r3), .val (.int r5), .val (.int r7), .val (.ref r9), .val (.int wc), .val (.int lc), .val (.ref r13), .val (.ref r19), .val (.int (1 : Int32)), .val (.ref b25), .unset] [(.ref b25)])) (fun _ k => XS.aload X36.here hx rfl (hb hby at_185) rfl rfl k) ?_
      refine GoW.via (S' := T36.setTop (mkF m 189 #[.val (.int p1), .val (.int p2), .val (.int p3), .val (.int p4), .val (.int n), .val (.int r1), .val (.int r3), .val (.int r5), .val (.int r7), .val (.ref r9), .val (.int wc), .val (.int lc), .val (.ref r13), .val (.ref r19), .val (.int (1 : Int32)), .val (.ref b25), .unset] [(.ref r19), (.ref b25)])) (fun _ k => XS.aload X36.here hx rfl (hb hby at_187) rfl rfl k) ?_
      obtain ⟨cq43, kq43, q43a, q43b, q43c⟩ := isOf hZ rfl f40
      obtain ⟨_, _, ⟨T43, L43, k43, n43⟩, -, X43, ⟨Lc43, hQ43, l43, y43, z43⟩, st43⟩ := X36.virtualBack hx (y := (⟨"com/example/amendatory/amendatory/ProvisionName", "paragraph", "(Ljava/lang/String;)Lcom/example/amendatory/amendatory/ProvisionName;"⟩ : MethodName)) (z := (⟨"com/example/amendatory/amendatory/ProvisionName", "paragraph", "(Ljava/lang/String;)Lcom/example/amendatory/amendatory/ProvisionName;"⟩ : MethodName)) hown (mvT hZ (hw _ (List.mem_of_getElem? (i := 68) rfl))) (mvT hZ (hw _ (List.mem_of_getElem? (i := 69) rfl))) (notFace_of_selects (args := #[]) (mvT hZ (hw _ (List.mem_of_getElem? (i := 71) rfl)))) (mvT hZ (hw _ (List.mem_of_getElem? (i := 71) rfl))) (mvT hZ (hw _ (List.mem_of_getElem? (i := 70) rfl))) (by decide) (backOf (W := 0) (rm15 l Z a0 hw [] b25 r19 r13 r9 T36.heap n0 z41 Fw36 Fn36) hZ (hw _ (List.mem_of_getElem? (i := 72) rfl)) (hw _ (List.mem_of_getElem? (i := 54) rfl)) (by decide) (by decide)) q43a q43c (g := (mkF m 189 #[.val (.int p1), .val (.int p2), .val (.int p3), .val (.int p4), .val (.int n), .val (.int r1), .val (.int r3), .val (.int r5), .val (.int r7), .val (.ref r9), .val (.int wc), .val (.int lc), .val (.ref r13), .val (.ref r19), .val (.int (1 : Int32)), .val (.ref b25), .unset] [(.ref r19), (.ref b25)])) rfl (by rw [hml]; rfl) (Steps.refl _) (argsL := [(.ref r19)]) (rest := []) (lenOf pd_16 rfl) rfl (by show 2 * 0 + _ ≤ _; exact Nat.le_of_eq rfl) (hb hby at_189) (fun _ _ => ⟨rfl, rfl, (by decide : 7 + 1 ≤ _), (by decide : 17 + 3 ≤ _)⟩)
      dsimp only [Pt.U, Pt.locs, Pt.cells, Pt.slots] at X43 l43 y43 z43 st43 hQ43
      subst l43 y43 z43
      obtain ⟨r43, rfl, N43q, K43, E43, F43⟩ := hQ43
      have N44 := Fr.app N37 N43q
      have f45 := f38.keep K43 all0
      have f46 := f39.keep K43 nin0 nin0
      have f47 := f40.keep K43
      have f48 := Fw36.keep K43 nin0
      have f49 := Fn36.keep K43 nin0
      have z50 := Nat.le_trans z41 K43.1
      have hk51 := Nat.le_trans hk42 K43.1
      refine GoW.via (S' := T43.setTop (mkF m 192 #[.val (.int p1), .val (.int p2), .val (.int p3), .val (.int p4), .val (.int n), .val (.int r1), .val (.int r3), .val (.int r5), .val (.int r7), .val (.ref r9), .val (.int wc), .val (.int lc), .val (.ref r13), .val (.ref r19), .val (.int (1 : Int32)), .val (.ref b25), .unset] [(.ref r43)])) (fun _ k => st43.trans k) ?_
      refine GoW.via (S' := T43.setTop (mkF m 194 #[.val (.int p1), .val (.int p2), .val (.int p3), .val (.int p4), .val (.int n), .val (.int r1), .val (.int r3), .val (.int r5), .val (.int r7), .val (.ref r9), .val (.int wc), .val (.int lc), .val (.ref r13), .val (.ref r19), .val (.int (1 : Int32)), .val (.ref b25), .val (.ref r43)] [])) (fun _ k => XS.astore X43.here hx rfl (hb hby at_192) rfl rfl (l' := #[.val (.int p1), .val (.int p2), .val (.int p3), .val (.int p4), .val (.int n), .val (.int r1), .val (.int r3), .val (.int r5), .val (.int r7), .val (.ref r9), .val (.int wc), .val (.int lc), .val (.ref r13), .val (.ref r19), .val (.int (1 : Int32)), .val (.ref b25), .val (.ref r43)]) rfl k) ?_
      refine GoW.via (S' := T43.setTop (mkF m 196 #[.val (.int p1), .val (.int p2), .val (.int p3), .val (.int p4), .val (.int n), .val (.int r1), .val (.int r3), .val (.int r5), .val (.int r7), .val (.ref r9), .val (.int wc), .val (.int lc), .val (.ref r13), .val (.ref r19), .val (.int (1 : Int32)), .val (.ref b25), .val (.ref r43)] [(.ref b25)])) (fun _ k => XS.aload X43.here hx rfl (hb hby at_194) rfl rfl k) ?_
      obtain ⟨cq52, kq52, q52a, q52b, q52c⟩ := isOf hZ rfl f47
      obtain ⟨_, _, ⟨T52, L52, k52, n52⟩, -, X52, ⟨Lc52, hQ52, l52, y52, z52⟩, st52⟩ := X43.virtualBack hx (y := (⟨"com/example/amendatory/amendatory/ProvisionName", "isSection", "()Z"⟩ : MethodName)) (z := (⟨"com/example/amendatory/amendatory/ProvisionName", "isSection", "()Z"⟩ : MethodName)) hown (mvT hZ (hw _ (List.mem_of_getElem? (i := 74) rfl))) (mvT hZ (hw _ (List.mem_of_getElem? (i := 75) rfl))) (notFace_of_selects (args := #[]) (mvT hZ (hw _ (List.mem_of_getElem? (i := 77) rfl)))) (mvT hZ (hw _ (List.mem_of_getElem? (i := 77) rfl))) (mvT hZ (hw _ (List.mem_of_getElem? (i := 76) rfl))) (by decide) (backOf (W := 0) (rm16 l Z a0 hw [] b25 r9 G1 t9 (own_cs n r1 r3 r5 r7) T43.heap n0 z50 f49 f45 O2 P5 f46) hZ (hw _ (List.mem_of_getElem? (i := 78) rfl)) (hw _ (List.mem_of_getElem? (i := 54) rfl)) (by decide) (by decide)) q52a q52c (g := (mkF m 196 #[.val (.int p1), .val (.int p2), .val (.int p3), .val (.int p4), .val (.int n), .val (.int r1), .val (.int r3), .val (.int r5), .val (.int r7), .val (.ref r9), .val (.int wc), .val (.int lc), .val (.ref r13), .val (.ref r19), .val (.int (1 : Int32)), .val (.ref b25), .val (.ref r43)] [(.ref b25)])) rfl (by rw [hml]; rfl) (Steps.refl _) (argsL := []) (rest := []) (lenOf pd_9 rfl) rfl (by show 2 * 0 + _ ≤ _; exact Nat.le_of_eq rfl) (hb hby at_196) (fun _ _ => ⟨rfl, rfl, (by decide : 8 + 0 ≤ _), (by decide : 20 + 0 ≤ _)⟩)
      dsimp only [Pt.U, Pt.locs, Pt.cells, Pt.slots] at X52 l52 y52 z52 st52 hQ52
      subst l52 y52 z52
      obtain ⟨r52, rfl, N52q, e52, hr52⟩ := hQ52
      have N53 := Fr.app N44 N52q
      refine GoW.via (S' := T52.setTop (mkF m 199 #[.val (.int p1), .val (.int p2), .val (.int p3), .val (.int p4), .val (.int n), .val (.int r1), .val (.int r3), .val (.int r5), .val (.int r7), .val (.ref r9), .val (.int wc), .val (.int lc), .val (.ref r13), .val (.ref r19), .val (.int (1 : Int32)), .val (.ref b25), .val (.ref r43)] [(.int r52)])) (fun _ k => st52.trans k) ?_
      rcases hr52 with ⟨rfl, hB⟩ | ⟨rfl, hB⟩
      · exact absurd hex hB
      · refine GoW.via (S' := T52.setTop (mkF m 201 #[.val (.int p1), .val (.int p2), .val (.int p3), .val (.int p4), .val (.int n), .val (.int r1), .val (.int r3), .val (.int r5), .val (.int r7), .val (.ref r9), .val (.int wc), .val (.int lc), .val (.ref r13), .val (.ref r19), .val (.int (1 : Int32)), .val (.ref b25), .val (.ref r43)] [(.int (1 : Int32)), (.int (0 : Int32))])) (fun _ k => XS.iload X52.here hx rfl (hb hby at_199) rfl k) ?_
        refine GoW.via (S' := T52.setTop (mkF m 208 #[.val (.int p1), .val (.int p2), .val (.int p3), .val (.int p4), .val (.int n), .val (.int r1), .val (.int r3), .val (.int r5), .val (.int r7), .val (.ref r9), .val (.int wc), .val (.int lc), .val (.ref r13), .val (.ref r19), .val (.int (1 : Int32)), .val (.ref b25), .val (.ref r43)] [(.int (0 : Int32))])) (fun _ k => XS.ifYes X52.here hx rfl (pc0 := 201) (pc' := 208) rfl (hb hby at_201) rfl ((if0 _ _).trans (feq (by decide)).2) (by decide) (by decide) k) ?_
        refine GoW.via (S' := T52.setTop (mkF m 209 #[.val (.int p1), .val (.int p2), .val (.int p3), .val (.int p4), .val (.int n), .val (.int r1), .val (.int r3), .val (.int r5), .val (.int r7), .val (.ref r9), .val (.int wc), .val (.int lc), .val (.ref r13), .val (.ref r19), .val (.int (1 : Int32)), .val (.ref b25), .val (.ref r43)] [(.int (0 : Int32)), (.int (0 : Int32))])) (fun _ k => XS.iconst X52.here hx rfl (hb hby at_208) k) ?_
        refine GoW.via (S' := T52.setTop (mkF m 212 #[.val (.int p1), .val (.int p2), .val (.int p3), .val (.int p4), .val (.int n), .val (.int r1), .val (.int r3), .val (.int r5), .val (.int r7), .val (.ref r9), .val (.int wc), .val (.int lc), .val (.ref r13), .val (.ref r19), .val (.int (1 : Int32)), .val (.ref b25), .val (.ref r43)] [])) (fun _ k => XS.icmpNo X52.here hx rfl (hb hby at_209) rfl (teq (by decide)).2 k) ?_
        refine GoW.via (S' := T52.setTop (mkF m 214 #[.val (.int p1), .val (.int p2), .val (.int p3), .val (.int p4), .val (.int n), .val (.int r1), .val (.int r3), .val (.int r5), .val (.int r7), .val (.ref r9), .val (.int wc), .val (.int lc), .val (.ref r13), .val (.ref r19), .val (.int (1 : Int32)), .val (.ref b25), .val (.ref r43)] [(.ref r43)])) (fun _ k => XS.aload X52.here hx rfl (hb hby at_212) rfl rfl k) ?_
        obtain ⟨cq54, kq54, q54a, q54b, q54c⟩ := isOf hZ e52 E43
        obtain ⟨_, _, ⟨T54, L54, k54, n54⟩, -, X54, ⟨Lc54, hQ54, l54, y54, z54⟩, st54⟩ := X52.virtualBack hx (y := (⟨"com/example/amendatory/amendatory/ProvisionName", "isSection", "()Z"⟩ : MethodName)) (z := (⟨"com/example/amendatory/amendatory/ProvisionName", "isSection", "()Z"⟩ : MethodName)) hown (mvT hZ (hw _ (List.mem_of_getElem? (i := 74) rfl))) (mvT hZ (hw _ (List.mem_of_getElem? (i := 75) rfl))) (notFace_of_selects (args := #[]) (mvT hZ (hw _ (List.mem_of_getElem? (i := 77) rfl)))) (mvT hZ (hw _ (List.mem_of_getElem? (i := 77) rfl))) (mvT hZ (hw _ (List.mem_of_getElem? (i := 76) rfl))) (by decide) (backOf (W := 0) (rm16 l Z a0 hw [] r43 r9 G1 t9 (own_cs n r1 r3 r5 r7) T43.heap n0 z50 F43 f45 O2 P5 f46) hZ (hw _ (List.mem_of_getElem? (i := 78) rfl)) (hw _ (List.mem_of_getElem? (i := 54) rfl)) (by decide) (by decide)) q54a q54c (g := (mkF m 214 #[.val (.int p1), .val (.int p2), .val (.int p3), .val (.int p4), .val (.int n), .val (.int r1), .val (.int r3), .val (.int r5), .val (.int r7), .val (.ref r9), .val (.int wc), .val (.int lc), .val (.ref r13), .val (.ref r19), .val (.int (1 : Int32)), .val (.ref b25), .val (.ref r43)] [(.ref r43)])) rfl (by rw [hml]; rfl) (Steps.refl _) (argsL := []) (rest := []) (lenOf pd_9 rfl) rfl (by show 2 * 0 + _ ≤ _; exact Nat.le_of_eq rfl) (hb hby at_214) (fun _ _ => ⟨rfl, e52, (by decide : 8 + 0 ≤ _), (by decide : 20 + 0 ≤ _)⟩)
        dsimp only [Pt.U, Pt.locs, Pt.cells, Pt.slots] at X54 l54 y54 z54 st54 hQ54
        subst l54 y54 z54
        obtain ⟨r54, rfl, N54q, e54, hr54⟩ := hQ54
        have N55 := Fr.app N53 N54q
        refine GoW.via (S' := T54.setTop (mkF m 217 #[.val (.int p1), .val (.int p2), .val (.int p3), .val (.int p4), .val (.int n), .val (.int r1), .val (.int r3), .val (.int r5), .val (.int r7), .val (.ref r9), .val (.int wc), .val (.int lc), .val (.ref r13), .val (.ref r19), .val (.int (1 : Int32)), .val (.ref b25), .val (.ref r43)] [(.int r54)])) (fun _ k => st54.trans k) ?_
        rcases hr54 with ⟨rfl, hB⟩ | ⟨rfl, hB⟩
        · exact absurd hex hB
        · refine GoW.via (S' := T54.setTop (mkF m 219 #[.val (.int p1), .val (.int p2), .val (.int p3), .val (.int p4), .val (.int n), .val (.int r1), .val (.int r3), .val (.int r5), .val (.int r7), .val (.ref r9), .val (.int wc), .val (.int lc), .val (.ref r13), .val (.ref r19), .val (.int (1 : Int32)), .val (.ref b25), .val (.ref r43)] [(.int (1 : Int32)), (.int (0 : Int32))])) (fun _ k => XS.iload X54.here hx rfl (hb hby at_217) rfl k) ?_
          refine GoW.via (S' := T54.setTop (mkF m 226 #[.val (.int p1), .val (.int p2), .val (.int p3), .val (.int p4), .val (.int n), .val (.int r1), .val (.int r3), .val (.int r5), .val (.int r7), .val (.ref r9), .val (.int wc), .val (.int lc), .val (.ref r13), .val (.ref r19), .val (.int (1 : Int32)), .val (.ref b25), .val (.ref r43)] [(.int (0 : Int32))])) (fun _ k => XS.ifYes X54.here hx rfl (pc0 := 219) (pc' := 226) rfl (hb hby at_219) rfl ((if0 _ _).trans (feq (by decide)).2) (by decide) (by decide) k) ?_
          refine GoW.via (S' := T54.setTop (mkF m 227 #[.val (.int p1), .val (.int p2), .val (.int p3), .val (.int p4), .val (.int n), .val (.int r1), .val (.int r3), .val (.int r5), .val (.int r7), .val (.ref r9), .val (.int wc), .val (.int lc), .val (.ref r13), .val (.ref r19), .val (.int (1 : Int32)), .val (.ref b25), .val (.ref r43)] [(.int (0 : Int32)), (.int (0 : Int32))])) (fun _ k => XS.iconst X54.here hx rfl (hb hby at_226) k) ?_
          refine GoW.via (S' := T54.setTop (mkF m 230 #[.val (.int p1), .val (.int p2), .val (.int p3), .val (.int p4), .val (.int n), .val (.int r1), .val (.int r3), .val (.int r5), .val (.int r7), .val (.ref r9), .val (.int wc), .val (.int lc), .val (.ref r13), .val (.ref r19), .val (.int (1 : Int32)), .val (.ref b25), .val (.ref r43)] [])) (fun _ k => XS.icmpNo X54.here hx rfl (hb hby at_227) rfl (teq (by decide)).2 k) ?_
          refine GoW.via (S' := T54.setTop (mkF m 231 #[.val (.int p1), .val (.int p2), .val (.int p3), .val (.int p4), .val (.int n), .val (.int r1), .val (.int r3), .val (.int r5), .val (.int r7), .val (.ref r9), .val (.int wc), .val (.int lc), .val (.ref r13), .val (.ref r19), .val (.int (1 : Int32)), .val (.ref b25), .val (.ref r43)] [(.int (1 : Int32))])) (fun _ k => XS.iconst X54.here hx rfl (hb hby at_230) k) ?_
          refine GoW.via (S' := T54.setTop (mkF m 235 #[.val (.int p1), .val (.int p2), .val (.int p3), .val (.int p4), .val (.int n), .val (.int r1), .val (.int r3), .val (.int r5), .val (.int r7), .val (.ref r9), .val (.int wc), .val (.int lc), .val (.ref r13), .val (.ref r19), .val (.int (1 : Int32)), .val (.ref b25), .val (.ref r43)] [(.int (1 : Int32))])) (fun _ k => XS.goto X54.here hx rfl (pc0 := 231) (pc' := 235) rfl (hb hby at_231) (by decide) (by decide) k) ?_
          exact GoW.retB X54 hx (BodyLoose.notSynchronized Bd) hS9 (by rw [e54]; exact hk51) Bd.returns (hb hby at_235) rfl (by rw [e54]; exact ⟨rfl, N55⟩) (by decide) (by decide)
    · refine GoW.via (S' := T19.setTop (mkF m 172 #[.val (.int p1), .val (.int p2), .val (.int p3), .val (.int p4), .val (.int n), .val (.int r1), .val (.int r3), .val (.int r5), .val (.int r7), .val (.ref r9), .val (.int wc), .val (.int lc), .val (.ref r13), .val (.ref r19), .val (.int (0 : Int32)), .unset, .unset] [])) (fun _ k => XS.istore X19.here hx rfl (hb hby at_170) rfl (l' := #[.val (.int p1), .val (.int p2), .val (.int p3), .val (.int p4), .val (.int n), .val (.int r1), .val (.int r3), .val (.int r5), .val (.int r7), .val (.ref r9), .val (.int wc), .val (.int lc), .val (.ref r13), .val (.ref r19), .val (.int (0 : Int32)), .unset, .unset]) rfl k) ?_
      obtain ⟨T56, h56, X56, e56, E56, A56, D56, -, st56⟩ := newO X19 hx hZ hown (hw _ (List.mem_of_getElem? (i := 52) rfl)) (hw _ (List.mem_of_getElem? (i := 53) rfl)) (hw _ (List.mem_of_getElem? (i := 54) rfl)) rfl (g := (mkF m 172 #[.val (.int p1), .val (.int p2), .val (.int p3), .val (.int p4), .val (.int n), .val (.int r1), .val (.int r3), .val (.int r5), .val (.int r7), .val (.ref r9), .val (.int wc), .val (.int lc), .val (.ref r13), .val (.ref r19), .val (.int (0 : Int32)), .unset, .unset] [])) rfl (hb hby at_172) (by decide) (by decide)
      obtain ⟨b56, g56⟩ : ∃ z, z = T19.heap.size := ⟨_, rfl⟩
      rw [← g56] at A56 D56 st56
      have ne57 : r9 ≠ b56 := Nat.ne_of_lt (Nat.lt_of_lt_of_le f22.lt (Nat.le_of_eq g56.symm))
      have ne58 : t9 ≠ b56 := Nat.ne_of_lt (Nat.lt_of_lt_of_le f22.lt2 (Nat.le_of_eq g56.symm))
      have g59 : n0 ≤ b56 := Nat.le_trans z23 (Nat.le_of_eq g56.symm)
      have f60 := f21.ext E56
      have f61 := f22.ext E56
      have z62 := Nat.le_trans z23 E56.1
      have hk63 := Nat.le_trans hk24 E56.1
      have F64 : Fld Z h56 b56 "com/example/amendatory/amendatory/ProvisionName" "word" "Ljava/lang/String;" .null := D56 (Or.inr (hw _ (List.mem_of_getElem? (i := 63) rfl))) (ty := (.object "java/lang/String")) (by decide)
      have F65 : Fld Z h56 b56 "com/example/amendatory/amendatory/ProvisionName" "number" "Ljava/lang/String;" .null := D56 (Or.inr (hw _ (List.mem_of_getElem? (i := 65) rfl))) (ty := (.object "java/lang/String")) (by decide)
      have F66 : Fld Z h56 b56 "com/example/amendatory/amendatory/ProvisionName" "paragraph" "Ljava/lang/String;" .null := D56 (Or.inr (hw _ (List.mem_of_getElem? (i := 67) rfl))) (ty := (.object "java/lang/String")) (by decide)
      refine GoW.via (S' := T56.setTop (mkF m 175 #[.val (.int p1), .val (.int p2), .val (.int p3), .val (.int p4), .val (.int n), .val (.int r1), .val (.int r3), .val (.int r5), .val (.int r7), .val (.ref r9), .val (.int wc), .val (.int lc), .val (.ref r13), .val (.ref r19), .val (.int (0 : Int32)), .unset, .unset] [(.ref b56)])) (fun _ k => st56 _ k) ?_
      refine GoW.via (S' := T56.setTop (mkF m 176 #[.val (.int p1), .val (.int p2), .val (.int p3), .val (.int p4), .val (.int n), .val (.int r1), .val (.int r3), .val (.int r5), .val (.int r7), .val (.ref r9), .val (.int wc), .val (.int lc), .val (.ref r13), .val (.ref r19), .val (.int (0 : Int32)), .unset, .unset] [(.ref b56), (.ref b56)])) (fun _ k => XS.dup X56.here hx rfl (hb hby at_175) rfl rfl k) ?_
      refine GoW.via (S' := T56.setTop (mkF m 178 #[.val (.int p1), .val (.int p2), .val (.int p3), .val (.int p4), .val (.int n), .val (.int r1), .val (.int r3), .val (.int r5), .val (.int r7), .val (.ref r9), .val (.int wc), .val (.int lc), .val (.ref r13), .val (.ref r19), .val (.int (0 : Int32)), .unset, .unset] [(.ref r13), (.ref b56), (.ref b56)])) (fun _ k => XS.aload X56.here hx rfl (hb hby at_176) rfl rfl k) ?_
      refine GoW.via (S' := T56.setTop (mkF m 180 #[.val (.int p1), .val (.int p2), .val (.int p3), .val (.int p4), .val (.int n), .val (.int r1), .val (.int r3), .val (.int r5), .val (.int r7), .val (.ref r9), .val (.int wc), .val (.int lc), .val (.ref r13), .val (.ref r19), .val (.int (0 : Int32)), .unset, .unset] [(.ref r9), (.ref r13), (.ref b56), (.ref b56)])) (fun _ k => XS.aload X56.here hx rfl (hb hby at_178) rfl rfl k) ?_
      obtain ⟨_, _, ⟨T67, L67, k67, n67⟩, -, X67, ⟨Lc67, hQ67, l67, y67, z67⟩, st67⟩ := X56.specialBack hx (y := (⟨"com/example/amendatory/amendatory/ProvisionName", "<init>", "(Ljava/lang/String;Ljava/lang/String;)V"⟩ : MethodName)) rfl hown (mvT hZ (hw _ (List.mem_of_getElem? (i := 55) rfl))) (mvT hZ (hw _ (List.mem_of_getElem? (i := 56) rfl))) (mvT hZ (hw _ (List.mem_of_getElem? (i := 57) rfl))) (by decide) (backOf (W := 1) (rm13 l Z a0 hw [] b56 r13 r9 h56 n0 z62 A56 F64 F65 F66 g59) hZ (hw _ (List.mem_of_getElem? (i := 57) rfl)) (hw _ (List.mem_of_getElem? (i := 54) rfl)) (by decide) (by decide)) (g := (mkF m 180 #[.val (.int p1), .val (.int p2), .val (.int p3), .val (.int p4), .val (.int n), .val (.int r1), .val (.int r3), .val (.int r5), .val (.int r7), .val (.ref r9), .val (.int wc), .val (.int lc), .val (.ref r13), .val (.ref r19), .val (.int (0 : Int32)), .unset, .unset] [(.ref r9), (.ref r13), (.ref b56), (.ref b56)])) rfl (by rw [hml]; rfl) (Steps.refl _) (a := b56) (argsL := [(.ref r13), (.ref r9)]) (rest := [(.ref b56)]) (lenOf pd_15 rfl) rfl (by show 2 * 0 + _ ≤ _; exact Nat.le_of_eq rfl) (hb hby at_180) (fun _ _ => ⟨rfl, e56, (by decide : 7 + 0 ≤ _), (by decide : 17 + 0 ≤ _)⟩)
      dsimp only [Pt.U, Pt.locs, Pt.cells, Pt.slots] at X67 l67 y67 z67 st67 hQ67
      subst l67 y67 z67
      obtain ⟨rfl, N67q, K67, Fw67, Fn67⟩ := hQ67
      have N68 := Fr.app N20 N67q
      have f69 := f60.keep K67 (allS g59 all0)
      have f70 := f61.keep K67 (ninS ne57 nin0) (ninS ne58 nin0)
      have f71 := A56.keep K67
      have z72 := Nat.le_trans z62 K67.1
      have hk73 := Nat.le_trans hk63 K67.1
      refine GoW.via (S' := T67.setTop (mkF m 183 #[.val (.int p1), .val (.int p2), .val (.int p3), .val (.int p4), .val (.int n), .val (.int r1), .val (.int r3), .val (.int r5), .val (.int r7), .val (.ref r9), .val (.int wc), .val (.int lc), .val (.ref r13), .val (.ref r19), .val (.int (0 : Int32)), .unset, .unset] [(.ref b56)])) (fun _ k => st67.trans k) ?_
      refine GoW.via (S' := T67.setTop (mkF m 185 #[.val (.int p1), .val (.int p2), .val (.int p3), .val (.int p4), .val (.int n), .val (.int r1), .val (.int r3), .val (.int r5), .val (.int r7), .val (.ref r9), .val (.int wc), .val (.int lc), .val (.ref r13), .val (.ref r19), .val (.int (0 : Int32)), .val (.ref b56), .unset] [])) (fun _ k => XS.astore X67.here hx rfl (hb hby at_183) rfl rfl (l' := #[.val (.int p1), .val (.int p2), .val (.int p3), .val (.int p4), .val (.int n), .val (.int r1), .val (.int r3), .val (.int r5), .val (.int r7), .val (.ref r9), .val (.int wc), .val (.int lc), .val (.ref r13), .val (.ref r19), .val (.int (0 : Int32)), .val (.ref b56), .unset]) rfl k) ?_
      refine GoW.via (S' := T67.setTop (mkF m 187 #[.val (.int p1), .val (.int p2), .val (.int p3), .val (.int p4), .val (.int n), .val (.int r1), .val (.int r3), .val (.int r5), .val (.int r7), .val (.ref r9), .val (.int wc), .val (.int lc), .val (.ref r13), .val (.ref r19), .val (.int (0 : Int32)), .val (.ref b56), .unset] [(.ref b56)])) (fun _ k => XS.aload X67.here hx rfl (hb hby at_185) rfl rfl k) ?_
      refine GoW.via (S' := T67.setTop (mkF m 189 #[.val (.int p1), .val (.int p2), .val (.int p3), .val (.int p4), .val (.int n), .val (.int r1), .val (.int r3), .val (.int r5), .val (.int r7), .val (.ref r9), .val (.int wc), .val (.int lc), .val (.ref r13), .val (.ref r19), .val (.int (0 : Int32)), .val (.ref b56), .unset] [(.ref r19), (.ref b56)])) (fun _ k => XS.aload X67.here hx rfl (hb hby at_187) rfl rfl k) ?_
      obtain ⟨cq74, kq74, q74a, q74b, q74c⟩ := isOf hZ rfl f71
      obtain ⟨_, _, ⟨T74, L74, k74, n74⟩, -, X74, ⟨Lc74, hQ74, l74, y74, z74⟩, st74⟩ := X67.virtualBack hx (y := (⟨"com/example/amendatory/amendatory/ProvisionName", "paragraph", "(Ljava/lang/String;)Lcom/example/amendatory/amendatory/ProvisionName;"⟩ : MethodName)) (z := (⟨"com/example/amendatory/amendatory/ProvisionName", "paragraph", "(Ljava/lang/String;)Lcom/example/amendatory/amendatory/ProvisionName;"⟩ : MethodName)) hown (mvT hZ (hw _ (List.mem_of_getElem? (i := 68) rfl))) (mvT hZ (hw _ (List.mem_of_getElem? (i := 69) rfl))) (notFace_of_selects (args := #[]) (mvT hZ (hw _ (List.mem_of_getElem? (i := 71) rfl)))) (mvT hZ (hw _ (List.mem_of_getElem? (i := 71) rfl))) (mvT hZ (hw _ (List.mem_of_getElem? (i := 70) rfl))) (by decide) (backOf (W := 0) (rm15 l Z a0 hw [] b56 r19 r13 r9 T67.heap n0 z72 Fw67 Fn67) hZ (hw _ (List.mem_of_getElem? (i := 72) rfl)) (hw _ (List.mem_of_getElem? (i := 54) rfl)) (by decide) (by decide)) q74a q74c (g := (mkF m 189 #[.val (.int p1), .val (.int p2), .val (.int p3), .val (.int p4), .val (.int n), .val (.int r1), .val (.int r3), .val (.int r5), .val (.int r7), .val (.ref r9), .val (.int wc), .val (.int lc), .val (.ref r13), .val (.ref r19), .val (.int (0 : Int32)), .val (.ref b56), .unset] [(.ref r19), (.ref b56)])) rfl (by rw [hml]; rfl) (Steps.refl _) (argsL := [(.ref r19)]) (rest := []) (lenOf pd_16 rfl) rfl (by show 2 * 0 + _ ≤ _; exact Nat.le_of_eq rfl) (hb hby at_189) (fun _ _ => ⟨rfl, rfl, (by decide : 7 + 1 ≤ _), (by decide : 17 + 3 ≤ _)⟩)
      dsimp only [Pt.U, Pt.locs, Pt.cells, Pt.slots] at X74 l74 y74 z74 st74 hQ74
      subst l74 y74 z74
      obtain ⟨r74, rfl, N74q, K74, E74, F74⟩ := hQ74
      have N75 := Fr.app N68 N74q
      have f76 := f69.keep K74 all0
      have f77 := f70.keep K74 nin0 nin0
      have f78 := f71.keep K74
      have f79 := Fw67.keep K74 nin0
      have f80 := Fn67.keep K74 nin0
      have z81 := Nat.le_trans z72 K74.1
      have hk82 := Nat.le_trans hk73 K74.1
      refine GoW.via (S' := T74.setTop (mkF m 192 #[.val (.int p1), .val (.int p2), .val (.int p3), .val (.int p4), .val (.int n), .val (.int r1), .val (.int r3), .val (.int r5), .val (.int r7), .val (.ref r9), .val (.int wc), .val (.int lc), .val (.ref r13), .val (.ref r19), .val (.int (0 : Int32)), .val (.ref b56), .unset] [(.ref r74)])) (fun _ k => st74.trans k) ?_
      refine GoW.via (S' := T74.setTop (mkF m 194 #[.val (.int p1), .val (.int p2), .val (.int p3), .val (.int p4), .val (.int n), .val (.int r1), .val (.int r3), .val (.int r5), .val (.int r7), .val (.ref r9), .val (.int wc), .val (.int lc), .val (.ref r13), .val (.ref r19), .val (.int (0 : Int32)), .val (.ref b56), .val (.ref r74)] [])) (fun _ k => XS.astore X74.here hx rfl (hb hby at_192) rfl rfl (l' := #[.val (.int p1), .val (.int p2), .val (.int p3), .val (.int p4), .val (.int n), .val (.int r1), .val (.int r3), .val (.int r5), .val (.int r7), .val (.ref r9), .val (.int wc), .val (.int lc), .val (.ref r13), .val (.ref r19), .val (.int (0 : Int32)), .val (.ref b56), .val (.ref r74)]) rfl k) ?_
      refine GoW.via (S' := T74.setTop (mkF m 196 #[.val (.int p1), .val (.int p2), .val (.int p3), .val (.int p4), .val (.int n), .val (.int r1), .val (.int r3), .val (.int r5), .val (.int r7), .val (.ref r9), .val (.int wc), .val (.int lc), .val (.ref r13), .val (.ref r19), .val (.int (0 : Int32)), .val (.ref b56), .val (.ref r74)] [(.ref b56)])) (fun _ k => XS.aload X74.here hx rfl (hb hby at_194) rfl rfl k) ?_
      obtain ⟨cq83, kq83, q83a, q83b, q83c⟩ := isOf hZ rfl f78
      obtain ⟨_, _, ⟨T83, L83, k83, n83⟩, -, X83, ⟨Lc83, hQ83, l83, y83, z83⟩, st83⟩ := X74.virtualBack hx (y := (⟨"com/example/amendatory/amendatory/ProvisionName", "isSection", "()Z"⟩ : MethodName)) (z := (⟨"com/example/amendatory/amendatory/ProvisionName", "isSection", "()Z"⟩ : MethodName)) hown (mvT hZ (hw _ (List.mem_of_getElem? (i := 74) rfl))) (mvT hZ (hw _ (List.mem_of_getElem? (i := 75) rfl))) (notFace_of_selects (args := #[]) (mvT hZ (hw _ (List.mem_of_getElem? (i := 77) rfl)))) (mvT hZ (hw _ (List.mem_of_getElem? (i := 77) rfl))) (mvT hZ (hw _ (List.mem_of_getElem? (i := 76) rfl))) (by decide) (backOf (W := 0) (rm16 l Z a0 hw [] b56 r9 G1 t9 (own_cs n r1 r3 r5 r7) T74.heap n0 z81 f80 f76 O2 P5 f77) hZ (hw _ (List.mem_of_getElem? (i := 78) rfl)) (hw _ (List.mem_of_getElem? (i := 54) rfl)) (by decide) (by decide)) q83a q83c (g := (mkF m 196 #[.val (.int p1), .val (.int p2), .val (.int p3), .val (.int p4), .val (.int n), .val (.int r1), .val (.int r3), .val (.int r5), .val (.int r7), .val (.ref r9), .val (.int wc), .val (.int lc), .val (.ref r13), .val (.ref r19), .val (.int (0 : Int32)), .val (.ref b56), .val (.ref r74)] [(.ref b56)])) rfl (by rw [hml]; rfl) (Steps.refl _) (argsL := []) (rest := []) (lenOf pd_9 rfl) rfl (by show 2 * 0 + _ ≤ _; exact Nat.le_of_eq rfl) (hb hby at_196) (fun _ _ => ⟨rfl, rfl, (by decide : 8 + 0 ≤ _), (by decide : 20 + 0 ≤ _)⟩)
      dsimp only [Pt.U, Pt.locs, Pt.cells, Pt.slots] at X83 l83 y83 z83 st83 hQ83
      subst l83 y83 z83
      obtain ⟨r83, rfl, N83q, e83, hr83⟩ := hQ83
      have N84 := Fr.app N75 N83q
      refine GoW.via (S' := T83.setTop (mkF m 199 #[.val (.int p1), .val (.int p2), .val (.int p3), .val (.int p4), .val (.int n), .val (.int r1), .val (.int r3), .val (.int r5), .val (.int r7), .val (.ref r9), .val (.int wc), .val (.int lc), .val (.ref r13), .val (.ref r19), .val (.int (0 : Int32)), .val (.ref b56), .val (.ref r74)] [(.int r83)])) (fun _ k => st83.trans k) ?_
      rcases hr83 with ⟨rfl, hB⟩ | ⟨rfl, hB⟩
      · refine GoW.via (S' := T83.setTop (mkF m 201 #[.val (.int p1), .val (.int p2), .val (.int p3), .val (.int p4), .val (.int n), .val (.int r1), .val (.int r3), .val (.int r5), .val (.int r7), .val (.ref r9), .val (.int wc), .val (.int lc), .val (.ref r13), .val (.ref r19), .val (.int (0 : Int32)), .val (.ref b56), .val (.ref r74)] [(.int (0 : Int32)), (.int (1 : Int32))])) (fun _ k => XS.iload X83.here hx rfl (hb hby at_199) rfl k) ?_
        refine GoW.via (S' := T83.setTop (mkF m 204 #[.val (.int p1), .val (.int p2), .val (.int p3), .val (.int p4), .val (.int n), .val (.int r1), .val (.int r3), .val (.int r5), .val (.int r7), .val (.ref r9), .val (.int wc), .val (.int lc), .val (.ref r13), .val (.ref r19), .val (.int (0 : Int32)), .val (.ref b56), .val (.ref r74)] [(.int (1 : Int32))])) (fun _ k => XS.ifNo X83.here hx rfl (hb hby at_201) rfl ((if0 _ _).trans (teq (by decide)).2) k) ?_
        refine GoW.via (S' := T83.setTop (mkF m 205 #[.val (.int p1), .val (.int p2), .val (.int p3), .val (.int p4), .val (.int n), .val (.int r1), .val (.int r3), .val (.int r5), .val (.int r7), .val (.ref r9), .val (.int wc), .val (.int lc), .val (.ref r13), .val (.ref r19), .val (.int (0 : Int32)), .val (.ref b56), .val (.ref r74)] [(.int (1 : Int32)), (.int (1 : Int32))])) (fun _ k => XS.iconst X83.here hx rfl (hb hby at_204) k) ?_
        refine GoW.via (S' := T83.setTop (mkF m 209 #[.val (.int p1), .val (.int p2), .val (.int p3), .val (.int p4), .val (.int n), .val (.int r1), .val (.int r3), .val (.int r5), .val (.int r7), .val (.ref r9), .val (.int wc), .val (.int lc), .val (.ref r13), .val (.ref r19), .val (.int (0 : Int32)), .val (.ref b56), .val (.ref r74)] [(.int (1 : Int32)), (.int (1 : Int32))])) (fun _ k => XS.goto X83.here hx rfl (pc0 := 205) (pc' := 209) rfl (hb hby at_205) (by decide) (by decide) k) ?_
        refine GoW.via (S' := T83.setTop (mkF m 212 #[.val (.int p1), .val (.int p2), .val (.int p3), .val (.int p4), .val (.int n), .val (.int r1), .val (.int r3), .val (.int r5), .val (.int r7), .val (.ref r9), .val (.int wc), .val (.int lc), .val (.ref r13), .val (.ref r19), .val (.int (0 : Int32)), .val (.ref b56), .val (.ref r74)] [])) (fun _ k => XS.icmpNo X83.here hx rfl (hb hby at_209) rfl (teq (by decide)).2 k) ?_
        refine GoW.via (S' := T83.setTop (mkF m 214 #[.val (.int p1), .val (.int p2), .val (.int p3), .val (.int p4), .val (.int n), .val (.int r1), .val (.int r3), .val (.int r5), .val (.int r7), .val (.ref r9), .val (.int wc), .val (.int lc), .val (.ref r13), .val (.ref r19), .val (.int (0 : Int32)), .val (.ref b56), .val (.ref r74)] [(.ref r74)])) (fun _ k => XS.aload X83.here hx rfl (hb hby at_212) rfl rfl k) ?_
        obtain ⟨cq85, kq85, q85a, q85b, q85c⟩ := isOf hZ e83 E74
        obtain ⟨_, _, ⟨T85, L85, k85, n85⟩, -, X85, ⟨Lc85, hQ85, l85, y85, z85⟩, st85⟩ := X83.virtualBack hx (y := (⟨"com/example/amendatory/amendatory/ProvisionName", "isSection", "()Z"⟩ : MethodName)) (z := (⟨"com/example/amendatory/amendatory/ProvisionName", "isSection", "()Z"⟩ : MethodName)) hown (mvT hZ (hw _ (List.mem_of_getElem? (i := 74) rfl))) (mvT hZ (hw _ (List.mem_of_getElem? (i := 75) rfl))) (notFace_of_selects (args := #[]) (mvT hZ (hw _ (List.mem_of_getElem? (i := 77) rfl)))) (mvT hZ (hw _ (List.mem_of_getElem? (i := 77) rfl))) (mvT hZ (hw _ (List.mem_of_getElem? (i := 76) rfl))) (by decide) (backOf (W := 0) (rm16 l Z a0 hw [] r74 r9 G1 t9 (own_cs n r1 r3 r5 r7) T74.heap n0 z81 F74 f76 O2 P5 f77) hZ (hw _ (List.mem_of_getElem? (i := 78) rfl)) (hw _ (List.mem_of_getElem? (i := 54) rfl)) (by decide) (by decide)) q85a q85c (g := (mkF m 214 #[.val (.int p1), .val (.int p2), .val (.int p3), .val (.int p4), .val (.int n), .val (.int r1), .val (.int r3), .val (.int r5), .val (.int r7), .val (.ref r9), .val (.int wc), .val (.int lc), .val (.ref r13), .val (.ref r19), .val (.int (0 : Int32)), .val (.ref b56), .val (.ref r74)] [(.ref r74)])) rfl (by rw [hml]; rfl) (Steps.refl _) (argsL := []) (rest := []) (lenOf pd_9 rfl) rfl (by show 2 * 0 + _ ≤ _; exact Nat.le_of_eq rfl) (hb hby at_214) (fun _ _ => ⟨rfl, e83, (by decide : 8 + 0 ≤ _), (by decide : 20 + 0 ≤ _)⟩)
        dsimp only [Pt.U, Pt.locs, Pt.cells, Pt.slots] at X85 l85 y85 z85 st85 hQ85
        subst l85 y85 z85
        obtain ⟨r85, rfl, N85q, e85, hr85⟩ := hQ85
        have N86 := Fr.app N84 N85q
        refine GoW.via (S' := T85.setTop (mkF m 217 #[.val (.int p1), .val (.int p2), .val (.int p3), .val (.int p4), .val (.int n), .val (.int r1), .val (.int r3), .val (.int r5), .val (.int r7), .val (.ref r9), .val (.int wc), .val (.int lc), .val (.ref r13), .val (.ref r19), .val (.int (0 : Int32)), .val (.ref b56), .val (.ref r74)] [(.int r85)])) (fun _ k => st85.trans k) ?_
        rcases hr85 with ⟨rfl, hB⟩ | ⟨rfl, hB⟩
        · refine GoW.via (S' := T85.setTop (mkF m 219 #[.val (.int p1), .val (.int p2), .val (.int p3), .val (.int p4), .val (.int n), .val (.int r1), .val (.int r3), .val (.int r5), .val (.int r7), .val (.ref r9), .val (.int wc), .val (.int lc), .val (.ref r13), .val (.ref r19), .val (.int (0 : Int32)), .val (.ref b56), .val (.ref r74)] [(.int (0 : Int32)), (.int (1 : Int32))])) (fun _ k => XS.iload X85.here hx rfl (hb hby at_217) rfl k) ?_
          refine GoW.via (S' := T85.setTop (mkF m 222 #[.val (.int p1), .val (.int p2), .val (.int p3), .val (.int p4), .val (.int n), .val (.int r1), .val (.int r3), .val (.int r5), .val (.int r7), .val (.ref r9), .val (.int wc), .val (.int lc), .val (.ref r13), .val (.ref r19), .val (.int (0 : Int32)), .val (.ref b56), .val (.ref r74)] [(.int (1 : Int32))])) (fun _ k => XS.ifNo X85.here hx rfl (hb hby at_219) rfl ((if0 _ _).trans (teq (by decide)).2) k) ?_
          refine GoW.via (S' := T85.setTop (mkF m 223 #[.val (.int p1), .val (.int p2), .val (.int p3), .val (.int p4), .val (.int n), .val (.int r1), .val (.int r3), .val (.int r5), .val (.int r7), .val (.ref r9), .val (.int wc), .val (.int lc), .val (.ref r13), .val (.ref r19), .val (.int (0 : Int32)), .val (.ref b56), .val (.ref r74)] [(.int (1 : Int32)), (.int (1 : Int32))])) (fun _ k => XS.iconst X85.here hx rfl (hb hby at_222) k) ?_
          refine GoW.via (S' := T85.setTop (mkF m 227 #[.val (.int p1), .val (.int p2), .val (.int p3), .val (.int p4), .val (.int n), .val (.int r1), .val (.int r3), .val (.int r5), .val (.int r7), .val (.ref r9), .val (.int wc), .val (.int lc), .val (.ref r13), .val (.ref r19), .val (.int (0 : Int32)), .val (.ref b56), .val (.ref r74)] [(.int (1 : Int32)), (.int (1 : Int32))])) (fun _ k => XS.goto X85.here hx rfl (pc0 := 223) (pc' := 227) rfl (hb hby at_223) (by decide) (by decide) k) ?_
          refine GoW.via (S' := T85.setTop (mkF m 230 #[.val (.int p1), .val (.int p2), .val (.int p3), .val (.int p4), .val (.int n), .val (.int r1), .val (.int r3), .val (.int r5), .val (.int r7), .val (.ref r9), .val (.int wc), .val (.int lc), .val (.ref r13), .val (.ref r19), .val (.int (0 : Int32)), .val (.ref b56), .val (.ref r74)] [])) (fun _ k => XS.icmpNo X85.here hx rfl (hb hby at_227) rfl (teq (by decide)).2 k) ?_
          refine GoW.via (S' := T85.setTop (mkF m 231 #[.val (.int p1), .val (.int p2), .val (.int p3), .val (.int p4), .val (.int n), .val (.int r1), .val (.int r3), .val (.int r5), .val (.int r7), .val (.ref r9), .val (.int wc), .val (.int lc), .val (.ref r13), .val (.ref r19), .val (.int (0 : Int32)), .val (.ref b56), .val (.ref r74)] [(.int (1 : Int32))])) (fun _ k => XS.iconst X85.here hx rfl (hb hby at_230) k) ?_
          refine GoW.via (S' := T85.setTop (mkF m 235 #[.val (.int p1), .val (.int p2), .val (.int p3), .val (.int p4), .val (.int n), .val (.int r1), .val (.int r3), .val (.int r5), .val (.int r7), .val (.ref r9), .val (.int wc), .val (.int lc), .val (.ref r13), .val (.ref r19), .val (.int (0 : Int32)), .val (.ref b56), .val (.ref r74)] [(.int (1 : Int32))])) (fun _ k => XS.goto X85.here hx rfl (pc0 := 231) (pc' := 235) rfl (hb hby at_231) (by decide) (by decide) k) ?_
          exact GoW.retB X85 hx (BodyLoose.notSynchronized Bd) hS9 (by rw [e85]; exact hk82) Bd.returns (hb hby at_235) rfl (by rw [e85]; exact ⟨rfl, N86⟩) (by decide) (by decide)
        · exact absurd hB hex
      · exact absurd hB hex
  · obtain ⟨_, _, ⟨T87, L87, k87, n87⟩, -, X87, ⟨Lc87, hQ87, l87, y87, z87⟩, st87⟩ := Jvm.LawKit.callS X7 hx (y := (⟨"com/example/amendatory/amendatory/ProvisionNameIsSectionPinLaw", "make", "(ICCCC)Ljava/lang/String;"⟩ : MethodName)) hown (mvT hZ (hw _ (List.mem_of_getElem? (i := 5) rfl))) (mvT hZ (hw _ (List.mem_of_getElem? (i := 6) rfl))) (mvT hZ (hw _ (List.mem_of_getElem? (i := 3) rfl))) (mvT hZ (hw _ (List.mem_of_getElem? (i := 7) rfl))) (by decide) (backOf (W := 0) (rm2 l Z a0 hw [] n r1 r3 r5 r7 G1 h0 n0 Z0 X00 O2 P5 hr1 hr3 hr5 hr7 hn0) hZ (hw _ (List.mem_of_getElem? (i := 7) rfl)) (hw _ (List.mem_of_getElem? (i := 3) rfl)) (by decide) (by decide)) (g := (mkF m 50 #[.val (.int p1), .val (.int p2), .val (.int p3), .val (.int p4), .val (.int n), .val (.int r1), .val (.int r3), .val (.int r5), .val (.int r7), .unset, .unset, .unset, .unset, .unset, .unset, .unset, .unset] [(.int r7), (.int r5), (.int r3), (.int r1), (.int n)])) rfl (by rw [hml]; rfl) (argsL := [(.int n), (.int r1), (.int r3), (.int r5), (.int r7)]) (rest := []) (lenOf pd_13 rfl) rfl (by show 2 * 0 + _ ≤ _; exact Nat.le_of_eq rfl) (hb hby at_50) (fun _ _ => ⟨rfl, e7, (by decide : 0 + 3 ≤ _), (by decide : 0 + 12 ≤ _)⟩)
    dsimp only [Pt.U, Pt.locs, Pt.cells, Pt.slots] at X87 l87 y87 z87 st87 hQ87
    subst l87 y87 z87
    obtain ⟨r87, t87, rfl, N87q, K87, S87⟩ := hQ87
    have N88 := Fr.app N8 N87q
    have f89 := X00.keep K87 all0
    have z90 := Nat.le_trans Z0 K87.1
    have hk91 := Nat.le_trans hk0 K87.1
    refine GoW.via (S' := T87.setTop (mkF m 53 #[.val (.int p1), .val (.int p2), .val (.int p3), .val (.int p4), .val (.int n), .val (.int r1), .val (.int r3), .val (.int r5), .val (.int r7), .unset, .unset, .unset, .unset, .unset, .unset, .unset, .unset] [(.ref r87)])) (fun _ k => st87 _ k) ?_
    refine GoW.via (S' := T87.setTop (mkF m 55 #[.val (.int p1), .val (.int p2), .val (.int p3), .val (.int p4), .val (.int n), .val (.int r1), .val (.int r3), .val (.int r5), .val (.int r7), .val (.ref r87), .unset, .unset, .unset, .unset, .unset, .unset, .unset] [])) (fun _ k => XS.astore X87.here hx rfl (hb hby at_53) rfl rfl (l' := #[.val (.int p1), .val (.int p2), .val (.int p3), .val (.int p4), .val (.int n), .val (.int r1), .val (.int r3), .val (.int r5), .val (.int r7), .val (.ref r87), .unset, .unset, .unset, .unset, .unset, .unset, .unset]) rfl k) ?_
    suffices J74 : ∀ (wc : Int32) (hwc : own_ch wc), GoW p e below s (Q0 Z p1 p2 p3 p4 G1 h0 n0) room_1.cells room_1.slots (T87.setTop (mkF m 74 #[.val (.int p1), .val (.int p2), .val (.int p3), .val (.int p4), .val (.int n), .val (.int r1), .val (.int r3), .val (.int r5), .val (.int r7), .val (.ref r87), .unset, .unset, .unset, .unset, .unset, .unset, .unset] [(.int wc)])) by
      refine GoW.via (S' := T87.setTop (mkF m 56 #[.val (.int p1), .val (.int p2), .val (.int p3), .val (.int p4), .val (.int n), .val (.int r1), .val (.int r3), .val (.int r5), .val (.int r7), .val (.ref r87), .unset, .unset, .unset, .unset, .unset, .unset, .unset] [(.int p2)])) (fun _ k => XS.iloadN X87.here hx rfl (hb hby at_55) rfl k) ?_
      refine GoW.via (S' := T87.setTop (mkF m 57 #[.val (.int p1), .val (.int p2), .val (.int p3), .val (.int p4), .val (.int n), .val (.int r1), .val (.int r3), .val (.int r5), .val (.int r7), .val (.ref r87), .unset, .unset, .unset, .unset, .unset, .unset, .unset] [(.int (4 : Int32)), (.int p2)])) (fun _ k => XS.iconst X87.here hx rfl (hb hby at_56) k) ?_
      refine GoW.via (S' := T87.setTop (mkF m 58 #[.val (.int p1), .val (.int p2), .val (.int p3), .val (.int p4), .val (.int n), .val (.int r1), .val (.int r3), .val (.int r5), .val (.int r7), .val (.ref r87), .unset, .unset, .unset, .unset, .unset, .unset, .unset] [(.int ((p2.toUInt32 >>> ((4 : Int32) &&& 31).toUInt32).toInt32))])) (fun _ k => XS.iushr X87.here hx rfl (hb hby at_57) rfl k) ?_
      refine GoW.via (S' := T87.setTop (mkF m 59 #[.val (.int p1), .val (.int p2), .val (.int p3), .val (.int p4), .val (.int n), .val (.int r1), .val (.int r3), .val (.int r5), .val (.int r7), .val (.ref r87), .unset, .unset, .unset, .unset, .unset, .unset, .unset] [(.int (1 : Int32)), (.int ((p2.toUInt32 >>> ((4 : Int32) &&& 31).toUInt32).toInt32))])) (fun _ k => XS.iconst X87.here hx rfl (hb hby at_58) k) ?_
      refine GoW.via (S' := T87.setTop (mkF m 60 #[.val (.int p1), .val (.int p2), .val (.int p3), .val (.int p4), .val (.int n), .val (.int r1), .val (.int r3), .val (.int r5), .val (.int r7), .val (.ref r87), .unset, .unset, .unset, .unset, .unset, .unset, .unset] [(.int (((p2.toUInt32 >>> ((4 : Int32) &&& 31).toUInt32).toInt32) &&& (1 : Int32)))])) (fun _ k => XS.iand X87.here hx rfl (hb hby at_59) rfl k) ?_
      rcases Decidable.em ((((p2.toUInt32 >>> ((4 : Int32) &&& 31).toUInt32).toInt32) &&& (1 : Int32)) = (0 : Int32)) with hc60 | hc60
      · refine GoW.via (S' := T87.setTop (mkF m 68 #[.val (.int p1), .val (.int p2), .val (.int p3), .val (.int p4), .val (.int n), .val (.int r1), .val (.int r3), .val (.int r5), .val (.int r7), .val (.ref r87), .unset, .unset, .unset, .unset, .unset, .unset, .unset] [])) (fun _ k => XS.ifYes X87.here hx rfl (pc0 := 60) (pc' := 68) rfl (hb hby at_60) rfl ((if0 _ _).trans (teq hc60).1) (by decide) (by decide) k) ?_
        refine GoW.via (S' := T87.setTop (mkF m 69 #[.val (.int p1), .val (.int p2), .val (.int p3), .val (.int p4), .val (.int n), .val (.int r1), .val (.int r3), .val (.int r5), .val (.int r7), .val (.ref r87), .unset, .unset, .unset, .unset, .unset, .unset, .unset] [(.int p4)])) (fun _ k => XS.iloadN X87.here hx rfl (hb hby at_68) rfl k) ?_
        refine GoW.via (S' := T87.setTop (mkF m 72 #[.val (.int p1), .val (.int p2), .val (.int p3), .val (.int p4), .val (.int n), .val (.int r1), .val (.int r3), .val (.int r5), .val (.int r7), .val (.ref r87), .unset, .unset, .unset, .unset, .unset, .unset, .unset] [(.int (255 : Int32)), (.int p4)])) (fun _ k => XS.sipush X87.here hx rfl (hb hby at_69) k) ?_
        refine GoW.via (S' := T87.setTop (mkF m 73 #[.val (.int p1), .val (.int p2), .val (.int p3), .val (.int p4), .val (.int n), .val (.int r1), .val (.int r3), .val (.int r5), .val (.int r7), .val (.ref r87), .unset, .unset, .unset, .unset, .unset, .unset, .unset] [(.int (p4 &&& (255 : Int32)))])) (fun _ k => XS.iand X87.here hx rfl (hb hby at_72) rfl k) ?_
        refine GoW.via (S' := T87.setTop (mkF m 74 #[.val (.int p1), .val (.int p2), .val (.int p3), .val (.int p4), .val (.int n), .val (.int r1), .val (.int r3), .val (.int r5), .val (.int r7), .val (.ref r87), .unset, .unset, .unset, .unset, .unset, .unset, .unset] [(.int ((p4 &&& (255 : Int32)).toUInt32.toUInt16.toUInt32.toInt32))])) (fun _ k => XS.i2c X87.here hx rfl (hb hby at_73) rfl k) ?_
        exact J74 _ (own_chL _)
      · refine GoW.via (S' := T87.setTop (mkF m 63 #[.val (.int p1), .val (.int p2), .val (.int p3), .val (.int p4), .val (.int n), .val (.int r1), .val (.int r3), .val (.int r5), .val (.int r7), .val (.ref r87), .unset, .unset, .unset, .unset, .unset, .unset, .unset] [])) (fun _ k => XS.ifNo X87.here hx rfl (hb hby at_60) rfl ((if0 _ _).trans (feq hc60).1) k) ?_
        refine GoW.via (S' := T87.setTop (mkF m 65 #[.val (.int p1), .val (.int p2), .val (.int p3), .val (.int p4), .val (.int n), .val (.int r1), .val (.int r3), .val (.int r5), .val (.int r7), .val (.ref r87), .unset, .unset, .unset, .unset, .unset, .unset, .unset] [(.int (46 : Int32))])) (fun _ k => XS.bipush X87.here hx rfl (hb hby at_63) k) ?_
        refine GoW.via (S' := T87.setTop (mkF m 74 #[.val (.int p1), .val (.int p2), .val (.int p3), .val (.int p4), .val (.int n), .val (.int r1), .val (.int r3), .val (.int r5), .val (.int r7), .val (.ref r87), .unset, .unset, .unset, .unset, .unset, .unset, .unset] [(.int (46 : Int32))])) (fun _ k => XS.goto X87.here hx rfl (pc0 := 65) (pc' := 74) rfl (hb hby at_65) (by decide) (by decide) k) ?_
        exact J74 _ own_46
    intro wc hwc
    refine GoW.via (S' := T87.setTop (mkF m 76 #[.val (.int p1), .val (.int p2), .val (.int p3), .val (.int p4), .val (.int n), .val (.int r1), .val (.int r3), .val (.int r5), .val (.int r7), .val (.ref r87), .val (.int wc), .unset, .unset, .unset, .unset, .unset, .unset] [])) (fun _ k => XS.istore X87.here hx rfl (hb hby at_74) rfl (l' := #[.val (.int p1), .val (.int p2), .val (.int p3), .val (.int p4), .val (.int n), .val (.int r1), .val (.int r3), .val (.int r5), .val (.int r7), .val (.ref r87), .val (.int wc), .unset, .unset, .unset, .unset, .unset, .unset]) rfl k) ?_
    suffices J98 : ∀ (lc : Int32) (hlc : own_ch lc), GoW p e below s (Q0 Z p1 p2 p3 p4 G1 h0 n0) room_1.cells room_1.slots (T87.setTop (mkF m 98 #[.val (.int p1), .val (.int p2), .val (.int p3), .val (.int p4), .val (.int n), .val (.int r1), .val (.int r3), .val (.int r5), .val (.int r7), .val (.ref r87), .val (.int wc), .unset, .unset, .unset, .unset, .unset, .unset] [(.int lc)])) by
      refine GoW.via (S' := T87.setTop (mkF m 77 #[.val (.int p1), .val (.int p2), .val (.int p3), .val (.int p4), .val (.int n), .val (.int r1), .val (.int r3), .val (.int r5), .val (.int r7), .val (.ref r87), .val (.int wc), .unset, .unset, .unset, .unset, .unset, .unset] [(.int p2)])) (fun _ k => XS.iloadN X87.here hx rfl (hb hby at_76) rfl k) ?_
      refine GoW.via (S' := T87.setTop (mkF m 78 #[.val (.int p1), .val (.int p2), .val (.int p3), .val (.int p4), .val (.int n), .val (.int r1), .val (.int r3), .val (.int r5), .val (.int r7), .val (.ref r87), .val (.int wc), .unset, .unset, .unset, .unset, .unset, .unset] [(.int (5 : Int32)), (.int p2)])) (fun _ k => XS.iconst X87.here hx rfl (hb hby at_77) k) ?_
      refine GoW.via (S' := T87.setTop (mkF m 79 #[.val (.int p1), .val (.int p2), .val (.int p3), .val (.int p4), .val (.int n), .val (.int r1), .val (.int r3), .val (.int r5), .val (.int r7), .val (.ref r87), .val (.int wc), .unset, .unset, .unset, .unset, .unset, .unset] [(.int ((p2.toUInt32 >>> ((5 : Int32) &&& 31).toUInt32).toInt32))])) (fun _ k => XS.iushr X87.here hx rfl (hb hby at_78) rfl k) ?_
      refine GoW.via (S' := T87.setTop (mkF m 80 #[.val (.int p1), .val (.int p2), .val (.int p3), .val (.int p4), .val (.int n), .val (.int r1), .val (.int r3), .val (.int r5), .val (.int r7), .val (.ref r87), .val (.int wc), .unset, .unset, .unset, .unset, .unset, .unset] [(.int (1 : Int32)), (.int ((p2.toUInt32 >>> ((5 : Int32) &&& 31).toUInt32).toInt32))])) (fun _ k => XS.iconst X87.here hx rfl (hb hby at_79) k) ?_
      refine GoW.via (S' := T87.setTop (mkF m 81 #[.val (.int p1), .val (.int p2), .val (.int p3), .val (.int p4), .val (.int n), .val (.int r1), .val (.int r3), .val (.int r5), .val (.int r7), .val (.ref r87), .val (.int wc), .unset, .unset, .unset, .unset, .unset, .unset] [(.int (((p2.toUInt32 >>> ((5 : Int32) &&& 31).toUInt32).toInt32) &&& (1 : Int32)))])) (fun _ k => XS.iand X87.here hx rfl (hb hby at_80) rfl k) ?_
      rcases Decidable.em ((((p2.toUInt32 >>> ((5 : Int32) &&& 31).toUInt32).toInt32) &&& (1 : Int32)) = (0 : Int32)) with hc81 | hc81
      · refine GoW.via (S' := T87.setTop (mkF m 89 #[.val (.int p1), .val (.int p2), .val (.int p3), .val (.int p4), .val (.int n), .val (.int r1), .val (.int r3), .val (.int r5), .val (.int r7), .val (.ref r87), .val (.int wc), .unset, .unset, .unset, .unset, .unset, .unset] [])) (fun _ k => XS.ifYes X87.here hx rfl (pc0 := 81) (pc' := 89) rfl (hb hby at_81) rfl ((if0 _ _).trans (teq hc81).1) (by decide) (by decide) k) ?_
        refine GoW.via (S' := T87.setTop (mkF m 90 #[.val (.int p1), .val (.int p2), .val (.int p3), .val (.int p4), .val (.int n), .val (.int r1), .val (.int r3), .val (.int r5), .val (.int r7), .val (.ref r87), .val (.int wc), .unset, .unset, .unset, .unset, .unset, .unset] [(.int p4)])) (fun _ k => XS.iloadN X87.here hx rfl (hb hby at_89) rfl k) ?_
        refine GoW.via (S' := T87.setTop (mkF m 92 #[.val (.int p1), .val (.int p2), .val (.int p3), .val (.int p4), .val (.int n), .val (.int r1), .val (.int r3), .val (.int r5), .val (.int r7), .val (.ref r87), .val (.int wc), .unset, .unset, .unset, .unset, .unset, .unset] [(.int (8 : Int32)), (.int p4)])) (fun _ k => XS.bipush X87.here hx rfl (hb hby at_90) k) ?_
        refine GoW.via (S' := T87.setTop (mkF m 93 #[.val (.int p1), .val (.int p2), .val (.int p3), .val (.int p4), .val (.int n), .val (.int r1), .val (.int r3), .val (.int r5), .val (.int r7), .val (.ref r87), .val (.int wc), .unset, .unset, .unset, .unset, .unset, .unset] [(.int ((p4.toUInt32 >>> ((8 : Int32) &&& 31).toUInt32).toInt32))])) (fun _ k => XS.iushr X87.here hx rfl (hb hby at_92) rfl k) ?_
        refine GoW.via (S' := T87.setTop (mkF m 96 #[.val (.int p1), .val (.int p2), .val (.int p3), .val (.int p4), .val (.int n), .val (.int r1), .val (.int r3), .val (.int r5), .val (.int r7), .val (.ref r87), .val (.int wc), .unset, .unset, .unset, .unset, .unset, .unset] [(.int (255 : Int32)), (.int ((p4.toUInt32 >>> ((8 : Int32) &&& 31).toUInt32).toInt32))])) (fun _ k => XS.sipush X87.here hx rfl (hb hby at_93) k) ?_
        refine GoW.via (S' := T87.setTop (mkF m 97 #[.val (.int p1), .val (.int p2), .val (.int p3), .val (.int p4), .val (.int n), .val (.int r1), .val (.int r3), .val (.int r5), .val (.int r7), .val (.ref r87), .val (.int wc), .unset, .unset, .unset, .unset, .unset, .unset] [(.int (((p4.toUInt32 >>> ((8 : Int32) &&& 31).toUInt32).toInt32) &&& (255 : Int32)))])) (fun _ k => XS.iand X87.here hx rfl (hb hby at_96) rfl k) ?_
        refine GoW.via (S' := T87.setTop (mkF m 98 #[.val (.int p1), .val (.int p2), .val (.int p3), .val (.int p4), .val (.int n), .val (.int r1), .val (.int r3), .val (.int r5), .val (.int r7), .val (.ref r87), .val (.int wc), .unset, .unset, .unset, .unset, .unset, .unset] [(.int ((((p4.toUInt32 >>> ((8 : Int32) &&& 31).toUInt32).toInt32) &&& (255 : Int32)).toUInt32.toUInt16.toUInt32.toInt32))])) (fun _ k => XS.i2c X87.here hx rfl (hb hby at_97) rfl k) ?_
        exact J98 _ (own_chL _)
      · refine GoW.via (S' := T87.setTop (mkF m 84 #[.val (.int p1), .val (.int p2), .val (.int p3), .val (.int p4), .val (.int n), .val (.int r1), .val (.int r3), .val (.int r5), .val (.int r7), .val (.ref r87), .val (.int wc), .unset, .unset, .unset, .unset, .unset, .unset] [])) (fun _ k => XS.ifNo X87.here hx rfl (hb hby at_81) rfl ((if0 _ _).trans (feq hc81).1) k) ?_
        refine GoW.via (S' := T87.setTop (mkF m 86 #[.val (.int p1), .val (.int p2), .val (.int p3), .val (.int p4), .val (.int n), .val (.int r1), .val (.int r3), .val (.int r5), .val (.int r7), .val (.ref r87), .val (.int wc), .unset, .unset, .unset, .unset, .unset, .unset] [(.int (46 : Int32))])) (fun _ k => XS.bipush X87.here hx rfl (hb hby at_84) k) ?_
        refine GoW.via (S' := T87.setTop (mkF m 98 #[.val (.int p1), .val (.int p2), .val (.int p3), .val (.int p4), .val (.int n), .val (.int r1), .val (.int r3), .val (.int r5), .val (.int r7), .val (.ref r87), .val (.int wc), .unset, .unset, .unset, .unset, .unset, .unset] [(.int (46 : Int32))])) (fun _ k => XS.goto X87.here hx rfl (pc0 := 86) (pc' := 98) rfl (hb hby at_86) (by decide) (by decide) k) ?_
        exact J98 _ own_46
    intro lc hlc
    refine GoW.via (S' := T87.setTop (mkF m 100 #[.val (.int p1), .val (.int p2), .val (.int p3), .val (.int p4), .val (.int n), .val (.int r1), .val (.int r3), .val (.int r5), .val (.int r7), .val (.ref r87), .val (.int wc), .val (.int lc), .unset, .unset, .unset, .unset, .unset] [])) (fun _ k => XS.istore X87.here hx rfl (hb hby at_98) rfl (l' := #[.val (.int p1), .val (.int p2), .val (.int p3), .val (.int p4), .val (.int n), .val (.int r1), .val (.int r3), .val (.int r5), .val (.int r7), .val (.ref r87), .val (.int wc), .val (.int lc), .unset, .unset, .unset, .unset, .unset]) rfl k) ?_
    refine GoW.via (S' := T87.setTop (mkF m 102 #[.val (.int p1), .val (.int p2), .val (.int p3), .val (.int p4), .val (.int n), .val (.int r1), .val (.int r3), .val (.int r5), .val (.int r7), .val (.ref r87), .val (.int wc), .val (.int lc), .unset, .unset, .unset, .unset, .unset] [(.int wc)])) (fun _ k => XS.iload X87.here hx rfl (hb hby at_100) rfl k) ?_
    obtain ⟨_, _, ⟨T92, L92, k92, n92⟩, -, X92, ⟨Lc92, hQ92, l92, y92, z92⟩, st92⟩ := Jvm.LawKit.callS X87 hx (y := (⟨"java/lang/String", "valueOf", "(C)Ljava/lang/String;"⟩ : MethodName)) hown (mvT hZ (hw _ (List.mem_of_getElem? (i := 38) rfl))) (mvT hZ (hw _ (List.mem_of_getElem? (i := 39) rfl))) (mvT hZ (hw _ (List.mem_of_getElem? (i := 10) rfl))) (mvT hZ (hw _ (List.mem_of_getElem? (i := 40) rfl))) (by decide) (backOf (W := 0) (rm9 l Z a0 hw [] wc G1 T87.heap n0 z90 f89 O2 P5 hwc) hZ (hw _ (List.mem_of_getElem? (i := 40) rfl)) (hw _ (List.mem_of_getElem? (i := 10) rfl)) (by decide) (by decide)) (g := (mkF m 102 #[.val (.int p1), .val (.int p2), .val (.int p3), .val (.int p4), .val (.int n), .val (.int r1), .val (.int r3), .val (.int r5), .val (.int r7), .val (.ref r87), .val (.int wc), .val (.int lc), .unset, .unset, .unset, .unset, .unset] [(.int wc)])) rfl (by rw [hml]; rfl) (argsL := [(.int wc)]) (rest := []) (lenOf pd_14 rfl) rfl (by show 2 * 0 + _ ≤ _; exact Nat.le_of_eq rfl) (hb hby at_102) (fun _ _ => ⟨rfl, rfl, (by decide : 3 + 2 ≤ _), (by decide : 12 + 5 ≤ _)⟩)
    dsimp only [Pt.U, Pt.locs, Pt.cells, Pt.slots] at X92 l92 y92 z92 st92 hQ92
    subst l92 y92 z92
    obtain ⟨r92, rfl, N92q, K92⟩ := hQ92
    have N93 := Fr.app N88 N92q
    have f94 := f89.keep K92 all0
    have f95 := S87.keep K92 nin0 nin0
    have z96 := Nat.le_trans z90 K92.1
    have hk97 := Nat.le_trans hk91 K92.1
    refine GoW.via (S' := T92.setTop (mkF m 105 #[.val (.int p1), .val (.int p2), .val (.int p3), .val (.int p4), .val (.int n), .val (.int r1), .val (.int r3), .val (.int r5), .val (.int r7), .val (.ref r87), .val (.int wc), .val (.int lc), .unset, .unset, .unset, .unset, .unset] [(.ref r92)])) (fun _ k => st92 _ k) ?_
    refine GoW.via (S' := T92.setTop (mkF m 107 #[.val (.int p1), .val (.int p2), .val (.int p3), .val (.int p4), .val (.int n), .val (.int r1), .val (.int r3), .val (.int r5), .val (.int r7), .val (.ref r87), .val (.int wc), .val (.int lc), .val (.ref r92), .unset, .unset, .unset, .unset] [])) (fun _ k => XS.astore X92.here hx rfl (hb hby at_105) rfl rfl (l' := #[.val (.int p1), .val (.int p2), .val (.int p3), .val (.int p4), .val (.int n), .val (.int r1), .val (.int r3), .val (.int r5), .val (.int r7), .val (.ref r87), .val (.int wc), .val (.int lc), .val (.ref r92), .unset, .unset, .unset, .unset]) rfl k) ?_
    refine GoW.via (S' := T92.setTop (mkF m 109 #[.val (.int p1), .val (.int p2), .val (.int p3), .val (.int p4), .val (.int n), .val (.int r1), .val (.int r3), .val (.int r5), .val (.int r7), .val (.ref r87), .val (.int wc), .val (.int lc), .val (.ref r92), .unset, .unset, .unset, .unset] [(.int lc)])) (fun _ k => XS.iload X92.here hx rfl (hb hby at_107) rfl k) ?_
    obtain ⟨_, _, ⟨T98, L98, k98, n98⟩, -, X98, ⟨Lc98, hQ98, l98, y98, z98⟩, st98⟩ := Jvm.LawKit.callS X92 hx (y := (⟨"java/lang/String", "valueOf", "(C)Ljava/lang/String;"⟩ : MethodName)) hown (mvT hZ (hw _ (List.mem_of_getElem? (i := 38) rfl))) (mvT hZ (hw _ (List.mem_of_getElem? (i := 39) rfl))) (mvT hZ (hw _ (List.mem_of_getElem? (i := 10) rfl))) (mvT hZ (hw _ (List.mem_of_getElem? (i := 40) rfl))) (by decide) (backOf (W := 0) (rm9 l Z a0 hw [] lc G1 T92.heap n0 z96 f94 O2 P5 hlc) hZ (hw _ (List.mem_of_getElem? (i := 40) rfl)) (hw _ (List.mem_of_getElem? (i := 10) rfl)) (by decide) (by decide)) (g := (mkF m 109 #[.val (.int p1), .val (.int p2), .val (.int p3), .val (.int p4), .val (.int n), .val (.int r1), .val (.int r3), .val (.int r5), .val (.int r7), .val (.ref r87), .val (.int wc), .val (.int lc), .val (.ref r92), .unset, .unset, .unset, .unset] [(.int lc)])) rfl (by rw [hml]; rfl) (argsL := [(.int lc)]) (rest := []) (lenOf pd_14 rfl) rfl (by show 2 * 0 + _ ≤ _; exact Nat.le_of_eq rfl) (hb hby at_109) (fun _ _ => ⟨rfl, rfl, (by decide : 5 + 2 ≤ _), (by decide : 17 + 5 ≤ _)⟩)
    dsimp only [Pt.U, Pt.locs, Pt.cells, Pt.slots] at X98 l98 y98 z98 st98 hQ98
    subst l98 y98 z98
    obtain ⟨r98, rfl, N98q, K98⟩ := hQ98
    have N99 := Fr.app N93 N98q
    have f100 := f94.keep K98 all0
    have f101 := f95.keep K98 nin0 nin0
    have z102 := Nat.le_trans z96 K98.1
    have hk103 := Nat.le_trans hk97 K98.1
    refine GoW.via (S' := T98.setTop (mkF m 112 #[.val (.int p1), .val (.int p2), .val (.int p3), .val (.int p4), .val (.int n), .val (.int r1), .val (.int r3), .val (.int r5), .val (.int r7), .val (.ref r87), .val (.int wc), .val (.int lc), .val (.ref r92), .unset, .unset, .unset, .unset] [(.ref r98)])) (fun _ k => st98 _ k) ?_
    refine GoW.via (S' := T98.setTop (mkF m 114 #[.val (.int p1), .val (.int p2), .val (.int p3), .val (.int p4), .val (.int n), .val (.int r1), .val (.int r3), .val (.int r5), .val (.int r7), .val (.ref r87), .val (.int wc), .val (.int lc), .val (.ref r92), .val (.ref r98), .unset, .unset, .unset] [])) (fun _ k => XS.astore X98.here hx rfl (hb hby at_112) rfl rfl (l' := #[.val (.int p1), .val (.int p2), .val (.int p3), .val (.int p4), .val (.int n), .val (.int r1), .val (.int r3), .val (.int r5), .val (.int r7), .val (.ref r87), .val (.int wc), .val (.int lc), .val (.ref r92), .val (.ref r98), .unset, .unset, .unset]) rfl k) ?_
    suffices J170 : ∀ (ex : Int32) (hex : (ex = 1 ∧ 46 ∈ (own_cs n r1 r3 r5 r7)) ∨ (ex = 0 ∧ ¬ 46 ∈ (own_cs n r1 r3 r5 r7))), GoW p e below s (Q0 Z p1 p2 p3 p4 G1 h0 n0) room_1.cells room_1.slots (T98.setTop (mkF m 170 #[.val (.int p1), .val (.int p2), .val (.int p3), .val (.int p4), .val (.int n), .val (.int r1), .val (.int r3), .val (.int r5), .val (.int r7), .val (.ref r87), .val (.int wc), .val (.int lc), .val (.ref r92), .val (.ref r98), .unset, .unset, .unset] [(.int ex)])) by
      refine GoW.via (S' := T98.setTop (mkF m 116 #[.val (.int p1), .val (.int p2), .val (.int p3), .val (.int p4), .val (.int n), .val (.int r1), .val (.int r3), .val (.int r5), .val (.int r7), .val (.ref r87), .val (.int wc), .val (.int lc), .val (.ref r92), .val (.ref r98), .unset, .unset, .unset] [(.int n)])) (fun _ k => XS.iload X98.here hx rfl (hb hby at_114) rfl k) ?_
      rcases Decidable.em ((0 : Int32) < n) with hc116 | hc116
      · refine GoW.via (S' := T98.setTop (mkF m 119 #[.val (.int p1), .val (.int p2), .val (.int p3), .val (.int p4), .val (.int n), .val (.int r1), .val (.int r3), .val (.int r5), .val (.int r7), .val (.ref r87), .val (.int wc), .val (.int lc), .val (.ref r92), .val (.ref r98), .unset, .unset, .unset] [])) (fun _ k => XS.ifNo X98.here hx rfl (hb hby at_116) rfl ((if0 _ _).trans (tlt hc116).2.2.2) k) ?_
        refine GoW.via (S' := T98.setTop (mkF m 121 #[.val (.int p1), .val (.int p2), .val (.int p3), .val (.int p4), .val (.int n), .val (.int r1), .val (.int r3), .val (.int r5), .val (.int r7), .val (.ref r87), .val (.int wc), .val (.int lc), .val (.ref r92), .val (.ref r98), .unset, .unset, .unset] [(.int r1)])) (fun _ k => XS.iload X98.here hx rfl (hb hby at_119) rfl k) ?_
        refine GoW.via (S' := T98.setTop (mkF m 123 #[.val (.int p1), .val (.int p2), .val (.int p3), .val (.int p4), .val (.int n), .val (.int r1), .val (.int r3), .val (.int r5), .val (.int r7), .val (.ref r87), .val (.int wc), .val (.int lc), .val (.ref r92), .val (.ref r98), .unset, .unset, .unset] [(.int (46 : Int32)), (.int r1)])) (fun _ k => XS.bipush X98.here hx rfl (hb hby at_121) k) ?_
        rcases Decidable.em (r1 = (46 : Int32)) with hc123 | hc123
        · refine GoW.via (S' := T98.setTop (mkF m 165 #[.val (.int p1), .val (.int p2), .val (.int p3), .val (.int p4), .val (.int n), .val (.int r1), .val (.int r3), .val (.int r5), .val (.int r7), .val (.ref r87), .val (.int wc), .val (.int lc), .val (.ref r92), .val (.ref r98), .unset, .unset, .unset] [])) (fun _ k => XS.icmpYes X98.here hx rfl (pc0 := 123) (pc' := 165) rfl (hb hby at_123) rfl (teq hc123).1 (by decide) (by decide) k) ?_
          refine GoW.via (S' := T98.setTop (mkF m 166 #[.val (.int p1), .val (.int p2), .val (.int p3), .val (.int p4), .val (.int n), .val (.int r1), .val (.int r3), .val (.int r5), .val (.int r7), .val (.ref r87), .val (.int wc), .val (.int lc), .val (.ref r92), .val (.ref r98), .unset, .unset, .unset] [(.int (1 : Int32))])) (fun _ k => XS.iconst X98.here hx rfl (hb hby at_165) k) ?_
          refine GoW.via (S' := T98.setTop (mkF m 170 #[.val (.int p1), .val (.int p2), .val (.int p3), .val (.int p4), .val (.int n), .val (.int r1), .val (.int r3), .val (.int r5), .val (.int r7), .val (.ref r87), .val (.int wc), .val (.int lc), .val (.ref r92), .val (.ref r98), .unset, .unset, .unset] [(.int (1 : Int32))])) (fun _ k => XS.goto X98.here hx rfl (pc0 := 166) (pc' := 170) rfl (hb hby at_166) (by decide) (by decide) k) ?_
          exact J170 _ (Or.inl ⟨rfl, (own_hd_iff hn).mpr (Or.inl ⟨hc116, hc123⟩)⟩)
        · refine GoW.via (S' := T98.setTop (mkF m 126 #[.val (.int p1), .val (.int p2), .val (.int p3), .val (.int p4), .val (.int n), .val (.int r1), .val (.int r3), .val (.int r5), .val (.int r7), .val (.ref r87), .val (.int wc), .val (.int lc), .val (.ref r92), .val (.ref r98), .unset, .unset, .unset] [])) (fun _ k => XS.icmpNo X98.here hx rfl (hb hby at_123) rfl (feq hc123).1 k) ?_
          refine GoW.via (S' := T98.setTop (mkF m 128 #[.val (.int p1), .val (.int p2), .val (.int p3), .val (.int p4), .val (.int n), .val (.int r1), .val (.int r3), .val (.int r5), .val (.int r7), .val (.ref r87), .val (.int wc), .val (.int lc), .val (.ref r92), .val (.ref r98), .unset, .unset, .unset] [(.int n)])) (fun _ k => XS.iload X98.here hx rfl (hb hby at_126) rfl k) ?_
          refine GoW.via (S' := T98.setTop (mkF m 129 #[.val (.int p1), .val (.int p2), .val (.int p3), .val (.int p4), .val (.int n), .val (.int r1), .val (.int r3), .val (.int r5), .val (.int r7), .val (.ref r87), .val (.int wc), .val (.int lc), .val (.ref r92), .val (.ref r98), .unset, .unset, .unset] [(.int (1 : Int32)), (.int n)])) (fun _ k => XS.iconst X98.here hx rfl (hb hby at_128) k) ?_
          rcases Decidable.em ((1 : Int32) < n) with hc129 | hc129
          · refine GoW.via (S' := T98.setTop (mkF m 132 #[.val (.int p1), .val (.int p2), .val (.int p3), .val (.int p4), .val (.int n), .val (.int r1), .val (.int r3), .val (.int r5), .val (.int r7), .val (.ref r87), .val (.int wc), .val (.int lc), .val (.ref r92), .val (.ref r98), .unset, .unset, .unset] [])) (fun _ k => XS.icmpNo X98.here hx rfl (hb hby at_129) rfl (tlt hc129).2.2.2 k) ?_
            refine GoW.via (S' := T98.setTop (mkF m 134 #[.val (.int p1), .val (.int p2), .val (.int p3), .val (.int p4), .val (.int n), .val (.int r1), .val (.int r3), .val (.int r5), .val (.int r7), .val (.ref r87), .val (.int wc), .val (.int lc), .val (.ref r92), .val (.ref r98), .unset, .unset, .unset] [(.int r3)])) (fun _ k => XS.iload X98.here hx rfl (hb hby at_132) rfl k) ?_
            refine GoW.via (S' := T98.setTop (mkF m 136 #[.val (.int p1), .val (.int p2), .val (.int p3), .val (.int p4), .val (.int n), .val (.int r1), .val (.int r3), .val (.int r5), .val (.int r7), .val (.ref r87), .val (.int wc), .val (.int lc), .val (.ref r92), .val (.ref r98), .unset, .unset, .unset] [(.int (46 : Int32)), (.int r3)])) (fun _ k => XS.bipush X98.here hx rfl (hb hby at_134) k) ?_
            rcases Decidable.em (r3 = (46 : Int32)) with hc136 | hc136
            · refine GoW.via (S' := T98.setTop (mkF m 165 #[.val (.int p1), .val (.int p2), .val (.int p3), .val (.int p4), .val (.int n), .val (.int r1), .val (.int r3), .val (.int r5), .val (.int r7), .val (.ref r87), .val (.int wc), .val (.int lc), .val (.ref r92), .val (.ref r98), .unset, .unset, .unset] [])) (fun _ k => XS.icmpYes X98.here hx rfl (pc0 := 136) (pc' := 165) rfl (hb hby at_136) rfl (teq hc136).1 (by decide) (by decide) k) ?_
              refine GoW.via (S' := T98.setTop (mkF m 166 #[.val (.int p1), .val (.int p2), .val (.int p3), .val (.int p4), .val (.int n), .val (.int r1), .val (.int r3), .val (.int r5), .val (.int r7), .val (.ref r87), .val (.int wc), .val (.int lc), .val (.ref r92), .val (.ref r98), .unset, .unset, .unset] [(.int (1 : Int32))])) (fun _ k => XS.iconst X98.here hx rfl (hb hby at_165) k) ?_
              refine GoW.via (S' := T98.setTop (mkF m 170 #[.val (.int p1), .val (.int p2), .val (.int p3), .val (.int p4), .val (.int n), .val (.int r1), .val (.int r3), .val (.int r5), .val (.int r7), .val (.ref r87), .val (.int wc), .val (.int lc), .val (.ref r92), .val (.ref r98), .unset, .unset, .unset] [(.int (1 : Int32))])) (fun _ k => XS.goto X98.here hx rfl (pc0 := 166) (pc' := 170) rfl (hb hby at_166) (by decide) (by decide) k) ?_
              exact J170 _ (Or.inl ⟨rfl, (own_hd_iff hn).mpr (Or.inr (Or.inl ⟨hc129, hc136⟩))⟩)
            · refine GoW.via (S' := T98.setTop (mkF m 139 #[.val (.int p1), .val (.int p2), .val (.int p3), .val (.int p4), .val (.int n), .val (.int r1), .val (.int r3), .val (.int r5), .val (.int r7), .val (.ref r87), .val (.int wc), .val (.int lc), .val (.ref r92), .val (.ref r98), .unset, .unset, .unset] [])) (fun _ k => XS.icmpNo X98.here hx rfl (hb hby at_136) rfl (feq hc136).1 k) ?_
              refine GoW.via (S' := T98.setTop (mkF m 141 #[.val (.int p1), .val (.int p2), .val (.int p3), .val (.int p4), .val (.int n), .val (.int r1), .val (.int r3), .val (.int r5), .val (.int r7), .val (.ref r87), .val (.int wc), .val (.int lc), .val (.ref r92), .val (.ref r98), .unset, .unset, .unset] [(.int n)])) (fun _ k => XS.iload X98.here hx rfl (hb hby at_139) rfl k) ?_
              refine GoW.via (S' := T98.setTop (mkF m 142 #[.val (.int p1), .val (.int p2), .val (.int p3), .val (.int p4), .val (.int n), .val (.int r1), .val (.int r3), .val (.int r5), .val (.int r7), .val (.ref r87), .val (.int wc), .val (.int lc), .val (.ref r92), .val (.ref r98), .unset, .unset, .unset] [(.int (2 : Int32)), (.int n)])) (fun _ k => XS.iconst X98.here hx rfl (hb hby at_141) k) ?_
              rcases Decidable.em ((2 : Int32) < n) with hc142 | hc142
              · refine GoW.via (S' := T98.setTop (mkF m 145 #[.val (.int p1), .val (.int p2), .val (.int p3), .val (.int p4), .val (.int n), .val (.int r1), .val (.int r3), .val (.int r5), .val (.int r7), .val (.ref r87), .val (.int wc), .val (.int lc), .val (.ref r92), .val (.ref r98), .unset, .unset, .unset] [])) (fun _ k => XS.icmpNo X98.here hx rfl (hb hby at_142) rfl (tlt hc142).2.2.2 k) ?_
                refine GoW.via (S' := T98.setTop (mkF m 147 #[.val (.int p1), .val (.int p2), .val (.int p3), .val (.int p4), .val (.int n), .val (.int r1), .val (.int r3), .val (.int r5), .val (.int r7), .val (.ref r87), .val (.int wc), .val (.int lc), .val (.ref r92), .val (.ref r98), .unset, .unset, .unset] [(.int r5)])) (fun _ k => XS.iload X98.here hx rfl (hb hby at_145) rfl k) ?_
                refine GoW.via (S' := T98.setTop (mkF m 149 #[.val (.int p1), .val (.int p2), .val (.int p3), .val (.int p4), .val (.int n), .val (.int r1), .val (.int r3), .val (.int r5), .val (.int r7), .val (.ref r87), .val (.int wc), .val (.int lc), .val (.ref r92), .val (.ref r98), .unset, .unset, .unset] [(.int (46 : Int32)), (.int r5)])) (fun _ k => XS.bipush X98.here hx rfl (hb hby at_147) k) ?_
                rcases Decidable.em (r5 = (46 : Int32)) with hc149 | hc149
                · refine GoW.via (S' := T98.setTop (mkF m 165 #[.val (.int p1), .val (.int p2), .val (.int p3), .val (.int p4), .val (.int n), .val (.int r1), .val (.int r3), .val (.int r5), .val (.int r7), .val (.ref r87), .val (.int wc), .val (.int lc), .val (.ref r92), .val (.ref r98), .unset, .unset, .unset] [])) (fun _ k => XS.icmpYes X98.here hx rfl (pc0 := 149) (pc' := 165) rfl (hb hby at_149) rfl (teq hc149).1 (by decide) (by decide) k) ?_
                  refine GoW.via (S' := T98.setTop (mkF m 166 #[.val (.int p1), .val (.int p2), .val (.int p3), .val (.int p4), .val (.int n), .val (.int r1), .val (.int r3), .val (.int r5), .val (.int r7), .val (.ref r87), .val (.int wc), .val (.int lc), .val (.ref r92), .val (.ref r98), .unset, .unset, .unset] [(.int (1 : Int32))])) (fun _ k => XS.iconst X98.here hx rfl (hb hby at_165) k) ?_
                  refine GoW.via (S' := T98.setTop (mkF m 170 #[.val (.int p1), .val (.int p2), .val (.int p3), .val (.int p4), .val (.int n), .val (.int r1), .val (.int r3), .val (.int r5), .val (.int r7), .val (.ref r87), .val (.int wc), .val (.int lc), .val (.ref r92), .val (.ref r98), .unset, .unset, .unset] [(.int (1 : Int32))])) (fun _ k => XS.goto X98.here hx rfl (pc0 := 166) (pc' := 170) rfl (hb hby at_166) (by decide) (by decide) k) ?_
                  exact J170 _ (Or.inl ⟨rfl, (own_hd_iff hn).mpr (Or.inr (Or.inr (Or.inl ⟨hc142, hc149⟩)))⟩)
                · refine GoW.via (S' := T98.setTop (mkF m 152 #[.val (.int p1), .val (.int p2), .val (.int p3), .val (.int p4), .val (.int n), .val (.int r1), .val (.int r3), .val (.int r5), .val (.int r7), .val (.ref r87), .val (.int wc), .val (.int lc), .val (.ref r92), .val (.ref r98), .unset, .unset, .unset] [])) (fun _ k => XS.icmpNo X98.here hx rfl (hb hby at_149) rfl (feq hc149).1 k) ?_
                  refine GoW.via (S' := T98.setTop (mkF m 154 #[.val (.int p1), .val (.int p2), .val (.int p3), .val (.int p4), .val (.int n), .val (.int r1), .val (.int r3), .val (.int r5), .val (.int r7), .val (.ref r87), .val (.int wc), .val (.int lc), .val (.ref r92), .val (.ref r98), .unset, .unset, .unset] [(.int n)])) (fun _ k => XS.iload X98.here hx rfl (hb hby at_152) rfl k) ?_
                  refine GoW.via (S' := T98.setTop (mkF m 155 #[.val (.int p1), .val (.int p2), .val (.int p3), .val (.int p4), .val (.int n), .val (.int r1), .val (.int r3), .val (.int r5), .val (.int r7), .val (.ref r87), .val (.int wc), .val (.int lc), .val (.ref r92), .val (.ref r98), .unset, .unset, .unset] [(.int (3 : Int32)), (.int n)])) (fun _ k => XS.iconst X98.here hx rfl (hb hby at_154) k) ?_
                  rcases Decidable.em ((3 : Int32) < n) with hc155 | hc155
                  · refine GoW.via (S' := T98.setTop (mkF m 158 #[.val (.int p1), .val (.int p2), .val (.int p3), .val (.int p4), .val (.int n), .val (.int r1), .val (.int r3), .val (.int r5), .val (.int r7), .val (.ref r87), .val (.int wc), .val (.int lc), .val (.ref r92), .val (.ref r98), .unset, .unset, .unset] [])) (fun _ k => XS.icmpNo X98.here hx rfl (hb hby at_155) rfl (tlt hc155).2.2.2 k) ?_
                    refine GoW.via (S' := T98.setTop (mkF m 160 #[.val (.int p1), .val (.int p2), .val (.int p3), .val (.int p4), .val (.int n), .val (.int r1), .val (.int r3), .val (.int r5), .val (.int r7), .val (.ref r87), .val (.int wc), .val (.int lc), .val (.ref r92), .val (.ref r98), .unset, .unset, .unset] [(.int r7)])) (fun _ k => XS.iload X98.here hx rfl (hb hby at_158) rfl k) ?_
                    refine GoW.via (S' := T98.setTop (mkF m 162 #[.val (.int p1), .val (.int p2), .val (.int p3), .val (.int p4), .val (.int n), .val (.int r1), .val (.int r3), .val (.int r5), .val (.int r7), .val (.ref r87), .val (.int wc), .val (.int lc), .val (.ref r92), .val (.ref r98), .unset, .unset, .unset] [(.int (46 : Int32)), (.int r7)])) (fun _ k => XS.bipush X98.here hx rfl (hb hby at_160) k) ?_
                    rcases Decidable.em (r7 = (46 : Int32)) with hc162 | hc162
                    · refine GoW.via (S' := T98.setTop (mkF m 165 #[.val (.int p1), .val (.int p2), .val (.int p3), .val (.int p4), .val (.int n), .val (.int r1), .val (.int r3), .val (.int r5), .val (.int r7), .val (.ref r87), .val (.int wc), .val (.int lc), .val (.ref r92), .val (.ref r98), .unset, .unset, .unset] [])) (fun _ k => XS.icmpNo X98.here hx rfl (hb hby at_162) rfl (teq hc162).2 k) ?_
                      refine GoW.via (S' := T98.setTop (mkF m 166 #[.val (.int p1), .val (.int p2), .val (.int p3), .val (.int p4), .val (.int n), .val (.int r1), .val (.int r3), .val (.int r5), .val (.int r7), .val (.ref r87), .val (.int wc), .val (.int lc), .val (.ref r92), .val (.ref r98), .unset, .unset, .unset] [(.int (1 : Int32))])) (fun _ k => XS.iconst X98.here hx rfl (hb hby at_165) k) ?_
                      refine GoW.via (S' := T98.setTop (mkF m 170 #[.val (.int p1), .val (.int p2), .val (.int p3), .val (.int p4), .val (.int n), .val (.int r1), .val (.int r3), .val (.int r5), .val (.int r7), .val (.ref r87), .val (.int wc), .val (.int lc), .val (.ref r92), .val (.ref r98), .unset, .unset, .unset] [(.int (1 : Int32))])) (fun _ k => XS.goto X98.here hx rfl (pc0 := 166) (pc' := 170) rfl (hb hby at_166) (by decide) (by decide) k) ?_
                      exact J170 _ (Or.inl ⟨rfl, (own_hd_iff hn).mpr (Or.inr (Or.inr (Or.inr (⟨hc155, hc162⟩))))⟩)
                    · refine GoW.via (S' := T98.setTop (mkF m 169 #[.val (.int p1), .val (.int p2), .val (.int p3), .val (.int p4), .val (.int n), .val (.int r1), .val (.int r3), .val (.int r5), .val (.int r7), .val (.ref r87), .val (.int wc), .val (.int lc), .val (.ref r92), .val (.ref r98), .unset, .unset, .unset] [])) (fun _ k => XS.icmpYes X98.here hx rfl (pc0 := 162) (pc' := 169) rfl (hb hby at_162) rfl (feq hc162).2 (by decide) (by decide) k) ?_
                      refine GoW.via (S' := T98.setTop (mkF m 170 #[.val (.int p1), .val (.int p2), .val (.int p3), .val (.int p4), .val (.int n), .val (.int r1), .val (.int r3), .val (.int r5), .val (.int r7), .val (.ref r87), .val (.int wc), .val (.int lc), .val (.ref r92), .val (.ref r98), .unset, .unset, .unset] [(.int (0 : Int32))])) (fun _ k => XS.iconst X98.here hx rfl (hb hby at_169) k) ?_
                      exact J170 _ (Or.inr ⟨rfl, fun q => ((own_hd_iff hn).mp q).elim (fun a => hc123 a.2) (fun q => q.elim (fun a => hc136 a.2) (fun q => q.elim (fun a => hc149 a.2) (fun a => hc162 a.2)))⟩)
                  · refine GoW.via (S' := T98.setTop (mkF m 169 #[.val (.int p1), .val (.int p2), .val (.int p3), .val (.int p4), .val (.int n), .val (.int r1), .val (.int r3), .val (.int r5), .val (.int r7), .val (.ref r87), .val (.int wc), .val (.int lc), .val (.ref r92), .val (.ref r98), .unset, .unset, .unset] [])) (fun _ k => XS.icmpYes X98.here hx rfl (pc0 := 155) (pc' := 169) rfl (hb hby at_155) rfl (flt hc155).2.2.2 (by decide) (by decide) k) ?_
                    refine GoW.via (S' := T98.setTop (mkF m 170 #[.val (.int p1), .val (.int p2), .val (.int p3), .val (.int p4), .val (.int n), .val (.int r1), .val (.int r3), .val (.int r5), .val (.int r7), .val (.ref r87), .val (.int wc), .val (.int lc), .val (.ref r92), .val (.ref r98), .unset, .unset, .unset] [(.int (0 : Int32))])) (fun _ k => XS.iconst X98.here hx rfl (hb hby at_169) k) ?_
                    exact J170 _ (Or.inr ⟨rfl, fun q => ((own_hd_iff hn).mp q).elim (fun a => hc123 a.2) (fun q => q.elim (fun a => hc136 a.2) (fun q => q.elim (fun a => hc149 a.2) (fun a => hc155 a.1)))⟩)
              · refine GoW.via (S' := T98.setTop (mkF m 152 #[.val (.int p1), .val (.int p2), .val (.int p3), .val (.int p4), .val (.int n), .val (.int r1), .val (.int r3), .val (.int r5), .val (.int r7), .val (.ref r87), .val (.int wc), .val (.int lc), .val (.ref r92), .val (.ref r98), .unset, .unset, .unset] [])) (fun _ k => XS.icmpYes X98.here hx rfl (pc0 := 142) (pc' := 152) rfl (hb hby at_142) rfl (flt hc142).2.2.2 (by decide) (by decide) k) ?_
                refine GoW.via (S' := T98.setTop (mkF m 154 #[.val (.int p1), .val (.int p2), .val (.int p3), .val (.int p4), .val (.int n), .val (.int r1), .val (.int r3), .val (.int r5), .val (.int r7), .val (.ref r87), .val (.int wc), .val (.int lc), .val (.ref r92), .val (.ref r98), .unset, .unset, .unset] [(.int n)])) (fun _ k => XS.iload X98.here hx rfl (hb hby at_152) rfl k) ?_
                refine GoW.via (S' := T98.setTop (mkF m 155 #[.val (.int p1), .val (.int p2), .val (.int p3), .val (.int p4), .val (.int n), .val (.int r1), .val (.int r3), .val (.int r5), .val (.int r7), .val (.ref r87), .val (.int wc), .val (.int lc), .val (.ref r92), .val (.ref r98), .unset, .unset, .unset] [(.int (3 : Int32)), (.int n)])) (fun _ k => XS.iconst X98.here hx rfl (hb hby at_154) k) ?_
                rcases Decidable.em ((3 : Int32) < n) with hc155 | hc155
                · refine GoW.via (S' := T98.setTop (mkF m 158 #[.val (.int p1), .val (.int p2), .val (.int p3), .val (.int p4), .val (.int n), .val (.int r1), .val (.int r3), .val (.int r5), .val (.int r7), .val (.ref r87), .val (.int wc), .val (.int lc), .val (.ref r92), .val (.ref r98), .unset, .unset, .unset] [])) (fun _ k => XS.icmpNo X98.here hx rfl (hb hby at_155) rfl (tlt hc155).2.2.2 k) ?_
                  refine GoW.via (S' := T98.setTop (mkF m 160 #[.val (.int p1), .val (.int p2), .val (.int p3), .val (.int p4), .val (.int n), .val (.int r1), .val (.int r3), .val (.int r5), .val (.int r7), .val (.ref r87), .val (.int wc), .val (.int lc), .val (.ref r92), .val (.ref r98), .unset, .unset, .unset] [(.int r7)])) (fun _ k => XS.iload X98.here hx rfl (hb hby at_158) rfl k) ?_
                  refine GoW.via (S' := T98.setTop (mkF m 162 #[.val (.int p1), .val (.int p2), .val (.int p3), .val (.int p4), .val (.int n), .val (.int r1), .val (.int r3), .val (.int r5), .val (.int r7), .val (.ref r87), .val (.int wc), .val (.int lc), .val (.ref r92), .val (.ref r98), .unset, .unset, .unset] [(.int (46 : Int32)), (.int r7)])) (fun _ k => XS.bipush X98.here hx rfl (hb hby at_160) k) ?_
                  rcases Decidable.em (r7 = (46 : Int32)) with hc162 | hc162
                  · refine GoW.via (S' := T98.setTop (mkF m 165 #[.val (.int p1), .val (.int p2), .val (.int p3), .val (.int p4), .val (.int n), .val (.int r1), .val (.int r3), .val (.int r5), .val (.int r7), .val (.ref r87), .val (.int wc), .val (.int lc), .val (.ref r92), .val (.ref r98), .unset, .unset, .unset] [])) (fun _ k => XS.icmpNo X98.here hx rfl (hb hby at_162) rfl (teq hc162).2 k) ?_
                    refine GoW.via (S' := T98.setTop (mkF m 166 #[.val (.int p1), .val (.int p2), .val (.int p3), .val (.int p4), .val (.int n), .val (.int r1), .val (.int r3), .val (.int r5), .val (.int r7), .val (.ref r87), .val (.int wc), .val (.int lc), .val (.ref r92), .val (.ref r98), .unset, .unset, .unset] [(.int (1 : Int32))])) (fun _ k => XS.iconst X98.here hx rfl (hb hby at_165) k) ?_
                    refine GoW.via (S' := T98.setTop (mkF m 170 #[.val (.int p1), .val (.int p2), .val (.int p3), .val (.int p4), .val (.int n), .val (.int r1), .val (.int r3), .val (.int r5), .val (.int r7), .val (.ref r87), .val (.int wc), .val (.int lc), .val (.ref r92), .val (.ref r98), .unset, .unset, .unset] [(.int (1 : Int32))])) (fun _ k => XS.goto X98.here hx rfl (pc0 := 166) (pc' := 170) rfl (hb hby at_166) (by decide) (by decide) k) ?_
                    exact J170 _ (Or.inl ⟨rfl, (own_hd_iff hn).mpr (Or.inr (Or.inr (Or.inr (⟨hc155, hc162⟩))))⟩)
                  · refine GoW.via (S' := T98.setTop (mkF m 169 #[.val (.int p1), .val (.int p2), .val (.int p3), .val (.int p4), .val (.int n), .val (.int r1), .val (.int r3), .val (.int r5), .val (.int r7), .val (.ref r87), .val (.int wc), .val (.int lc), .val (.ref r92), .val (.ref r98), .unset, .unset, .unset] [])) (fun _ k => XS.icmpYes X98.here hx rfl (pc0 := 162) (pc' := 169) rfl (hb hby at_162) rfl (feq hc162).2 (by decide) (by decide) k) ?_
                    refine GoW.via (S' := T98.setTop (mkF m 170 #[.val (.int p1), .val (.int p2), .val (.int p3), .val (.int p4), .val (.int n), .val (.int r1), .val (.int r3), .val (.int r5), .val (.int r7), .val (.ref r87), .val (.int wc), .val (.int lc), .val (.ref r92), .val (.ref r98), .unset, .unset, .unset] [(.int (0 : Int32))])) (fun _ k => XS.iconst X98.here hx rfl (hb hby at_169) k) ?_
                    exact J170 _ (Or.inr ⟨rfl, fun q => ((own_hd_iff hn).mp q).elim (fun a => hc123 a.2) (fun q => q.elim (fun a => hc136 a.2) (fun q => q.elim (fun a => hc142 a.1) (fun a => hc162 a.2)))⟩)
                · refine GoW.via (S' := T98.setTop (mkF m 169 #[.val (.int p1), .val (.int p2), .val (.int p3), .val (.int p4), .val (.int n), .val (.int r1), .val (.int r3), .val (.int r5), .val (.int r7), .val (.ref r87), .val (.int wc), .val (.int lc), .val (.ref r92), .val (.ref r98), .unset, .unset, .unset] [])) (fun _ k => XS.icmpYes X98.here hx rfl (pc0 := 155) (pc' := 169) rfl (hb hby at_155) rfl (flt hc155).2.2.2 (by decide) (by decide) k) ?_
                  refine GoW.via (S' := T98.setTop (mkF m 170 #[.val (.int p1), .val (.int p2), .val (.int p3), .val (.int p4), .val (.int n), .val (.int r1), .val (.int r3), .val (.int r5), .val (.int r7), .val (.ref r87), .val (.int wc), .val (.int lc), .val (.ref r92), .val (.ref r98), .unset, .unset, .unset] [(.int (0 : Int32))])) (fun _ k => XS.iconst X98.here hx rfl (hb hby at_169) k) ?_
                  exact J170 _ (Or.inr ⟨rfl, fun q => ((own_hd_iff hn).mp q).elim (fun a => hc123 a.2) (fun q => q.elim (fun a => hc136 a.2) (fun q => q.elim (fun a => hc142 a.1) (fun a => hc155 a.1)))⟩)
          · refine GoW.via (S' := T98.setTop (mkF m 139 #[.val (.int p1), .val (.int p2), .val (.int p3), .val (.int p4), .val (.int n), .val (.int r1), .val (.int r3), .val (.int r5), .val (.int r7), .val (.ref r87), .val (.int wc), .val (.int lc), .val (.ref r92), .val (.ref r98), .unset, .unset, .unset] [])) (fun _ k => XS.icmpYes X98.here hx rfl (pc0 := 129) (pc' := 139) rfl (hb hby at_129) rfl (flt hc129).2.2.2 (by decide) (by decide) k) ?_
            refine GoW.via (S' := T98.setTop (mkF m 141 #[.val (.int p1), .val (.int p2), .val (.int p3), .val (.int p4), .val (.int n), .val (.int r1), .val (.int r3), .val (.int r5), .val (.int r7), .val (.ref r87), .val (.int wc), .val (.int lc), .val (.ref r92), .val (.ref r98), .unset, .unset, .unset] [(.int n)])) (fun _ k => XS.iload X98.here hx rfl (hb hby at_139) rfl k) ?_
            refine GoW.via (S' := T98.setTop (mkF m 142 #[.val (.int p1), .val (.int p2), .val (.int p3), .val (.int p4), .val (.int n), .val (.int r1), .val (.int r3), .val (.int r5), .val (.int r7), .val (.ref r87), .val (.int wc), .val (.int lc), .val (.ref r92), .val (.ref r98), .unset, .unset, .unset] [(.int (2 : Int32)), (.int n)])) (fun _ k => XS.iconst X98.here hx rfl (hb hby at_141) k) ?_
            rcases Decidable.em ((2 : Int32) < n) with hc142 | hc142
            · refine GoW.via (S' := T98.setTop (mkF m 145 #[.val (.int p1), .val (.int p2), .val (.int p3), .val (.int p4), .val (.int n), .val (.int r1), .val (.int r3), .val (.int r5), .val (.int r7), .val (.ref r87), .val (.int wc), .val (.int lc), .val (.ref r92), .val (.ref r98), .unset, .unset, .unset] [])) (fun _ k => XS.icmpNo X98.here hx rfl (hb hby at_142) rfl (tlt hc142).2.2.2 k) ?_
              refine GoW.via (S' := T98.setTop (mkF m 147 #[.val (.int p1), .val (.int p2), .val (.int p3), .val (.int p4), .val (.int n), .val (.int r1), .val (.int r3), .val (.int r5), .val (.int r7), .val (.ref r87), .val (.int wc), .val (.int lc), .val (.ref r92), .val (.ref r98), .unset, .unset, .unset] [(.int r5)])) (fun _ k => XS.iload X98.here hx rfl (hb hby at_145) rfl k) ?_
              refine GoW.via (S' := T98.setTop (mkF m 149 #[.val (.int p1), .val (.int p2), .val (.int p3), .val (.int p4), .val (.int n), .val (.int r1), .val (.int r3), .val (.int r5), .val (.int r7), .val (.ref r87), .val (.int wc), .val (.int lc), .val (.ref r92), .val (.ref r98), .unset, .unset, .unset] [(.int (46 : Int32)), (.int r5)])) (fun _ k => XS.bipush X98.here hx rfl (hb hby at_147) k) ?_
              rcases Decidable.em (r5 = (46 : Int32)) with hc149 | hc149
              · refine GoW.via (S' := T98.setTop (mkF m 165 #[.val (.int p1), .val (.int p2), .val (.int p3), .val (.int p4), .val (.int n), .val (.int r1), .val (.int r3), .val (.int r5), .val (.int r7), .val (.ref r87), .val (.int wc), .val (.int lc), .val (.ref r92), .val (.ref r98), .unset, .unset, .unset] [])) (fun _ k => XS.icmpYes X98.here hx rfl (pc0 := 149) (pc' := 165) rfl (hb hby at_149) rfl (teq hc149).1 (by decide) (by decide) k) ?_
                refine GoW.via (S' := T98.setTop (mkF m 166 #[.val (.int p1), .val (.int p2), .val (.int p3), .val (.int p4), .val (.int n), .val (.int r1), .val (.int r3), .val (.int r5), .val (.int r7), .val (.ref r87), .val (.int wc), .val (.int lc), .val (.ref r92), .val (.ref r98), .unset, .unset, .unset] [(.int (1 : Int32))])) (fun _ k => XS.iconst X98.here hx rfl (hb hby at_165) k) ?_
                refine GoW.via (S' := T98.setTop (mkF m 170 #[.val (.int p1), .val (.int p2), .val (.int p3), .val (.int p4), .val (.int n), .val (.int r1), .val (.int r3), .val (.int r5), .val (.int r7), .val (.ref r87), .val (.int wc), .val (.int lc), .val (.ref r92), .val (.ref r98), .unset, .unset, .unset] [(.int (1 : Int32))])) (fun _ k => XS.goto X98.here hx rfl (pc0 := 166) (pc' := 170) rfl (hb hby at_166) (by decide) (by decide) k) ?_
                exact J170 _ (Or.inl ⟨rfl, (own_hd_iff hn).mpr (Or.inr (Or.inr (Or.inl ⟨hc142, hc149⟩)))⟩)
              · refine GoW.via (S' := T98.setTop (mkF m 152 #[.val (.int p1), .val (.int p2), .val (.int p3), .val (.int p4), .val (.int n), .val (.int r1), .val (.int r3), .val (.int r5), .val (.int r7), .val (.ref r87), .val (.int wc), .val (.int lc), .val (.ref r92), .val (.ref r98), .unset, .unset, .unset] [])) (fun _ k => XS.icmpNo X98.here hx rfl (hb hby at_149) rfl (feq hc149).1 k) ?_
                refine GoW.via (S' := T98.setTop (mkF m 154 #[.val (.int p1), .val (.int p2), .val (.int p3), .val (.int p4), .val (.int n), .val (.int r1), .val (.int r3), .val (.int r5), .val (.int r7), .val (.ref r87), .val (.int wc), .val (.int lc), .val (.ref r92), .val (.ref r98), .unset, .unset, .unset] [(.int n)])) (fun _ k => XS.iload X98.here hx rfl (hb hby at_152) rfl k) ?_
                refine GoW.via (S' := T98.setTop (mkF m 155 #[.val (.int p1), .val (.int p2), .val (.int p3), .val (.int p4), .val (.int n), .val (.int r1), .val (.int r3), .val (.int r5), .val (.int r7), .val (.ref r87), .val (.int wc), .val (.int lc), .val (.ref r92), .val (.ref r98), .unset, .unset, .unset] [(.int (3 : Int32)), (.int n)])) (fun _ k => XS.iconst X98.here hx rfl (hb hby at_154) k) ?_
                rcases Decidable.em ((3 : Int32) < n) with hc155 | hc155
                · refine GoW.via (S' := T98.setTop (mkF m 158 #[.val (.int p1), .val (.int p2), .val (.int p3), .val (.int p4), .val (.int n), .val (.int r1), .val (.int r3), .val (.int r5), .val (.int r7), .val (.ref r87), .val (.int wc), .val (.int lc), .val (.ref r92), .val (.ref r98), .unset, .unset, .unset] [])) (fun _ k => XS.icmpNo X98.here hx rfl (hb hby at_155) rfl (tlt hc155).2.2.2 k) ?_
                  refine GoW.via (S' := T98.setTop (mkF m 160 #[.val (.int p1), .val (.int p2), .val (.int p3), .val (.int p4), .val (.int n), .val (.int r1), .val (.int r3), .val (.int r5), .val (.int r7), .val (.ref r87), .val (.int wc), .val (.int lc), .val (.ref r92), .val (.ref r98), .unset, .unset, .unset] [(.int r7)])) (fun _ k => XS.iload X98.here hx rfl (hb hby at_158) rfl k) ?_
                  refine GoW.via (S' := T98.setTop (mkF m 162 #[.val (.int p1), .val (.int p2), .val (.int p3), .val (.int p4), .val (.int n), .val (.int r1), .val (.int r3), .val (.int r5), .val (.int r7), .val (.ref r87), .val (.int wc), .val (.int lc), .val (.ref r92), .val (.ref r98), .unset, .unset, .unset] [(.int (46 : Int32)), (.int r7)])) (fun _ k => XS.bipush X98.here hx rfl (hb hby at_160) k) ?_
                  rcases Decidable.em (r7 = (46 : Int32)) with hc162 | hc162
                  · refine GoW.via (S' := T98.setTop (mkF m 165 #[.val (.int p1), .val (.int p2), .val (.int p3), .val (.int p4), .val (.int n), .val (.int r1), .val (.int r3), .val (.int r5), .val (.int r7), .val (.ref r87), .val (.int wc), .val (.int lc), .val (.ref r92), .val (.ref r98), .unset, .unset, .unset] [])) (fun _ k => XS.icmpNo X98.here hx rfl (hb hby at_162) rfl (teq hc162).2 k) ?_
                    refine GoW.via (S' := T98.setTop (mkF m 166 #[.val (.int p1), .val (.int p2), .val (.int p3), .val (.int p4), .val (.int n), .val (.int r1), .val (.int r3), .val (.int r5), .val (.int r7), .val (.ref r87), .val (.int wc), .val (.int lc), .val (.ref r92), .val (.ref r98), .unset, .unset, .unset] [(.int (1 : Int32))])) (fun _ k => XS.iconst X98.here hx rfl (hb hby at_165) k) ?_
                    refine GoW.via (S' := T98.setTop (mkF m 170 #[.val (.int p1), .val (.int p2), .val (.int p3), .val (.int p4), .val (.int n), .val (.int r1), .val (.int r3), .val (.int r5), .val (.int r7), .val (.ref r87), .val (.int wc), .val (.int lc), .val (.ref r92), .val (.ref r98), .unset, .unset, .unset] [(.int (1 : Int32))])) (fun _ k => XS.goto X98.here hx rfl (pc0 := 166) (pc' := 170) rfl (hb hby at_166) (by decide) (by decide) k) ?_
                    exact J170 _ (Or.inl ⟨rfl, (own_hd_iff hn).mpr (Or.inr (Or.inr (Or.inr (⟨hc155, hc162⟩))))⟩)
                  · refine GoW.via (S' := T98.setTop (mkF m 169 #[.val (.int p1), .val (.int p2), .val (.int p3), .val (.int p4), .val (.int n), .val (.int r1), .val (.int r3), .val (.int r5), .val (.int r7), .val (.ref r87), .val (.int wc), .val (.int lc), .val (.ref r92), .val (.ref r98), .unset, .unset, .unset] [])) (fun _ k => XS.icmpYes X98.here hx rfl (pc0 := 162) (pc' := 169) rfl (hb hby at_162) rfl (feq hc162).2 (by decide) (by decide) k) ?_
                    refine GoW.via (S' := T98.setTop (mkF m 170 #[.val (.int p1), .val (.int p2), .val (.int p3), .val (.int p4), .val (.int n), .val (.int r1), .val (.int r3), .val (.int r5), .val (.int r7), .val (.ref r87), .val (.int wc), .val (.int lc), .val (.ref r92), .val (.ref r98), .unset, .unset, .unset] [(.int (0 : Int32))])) (fun _ k => XS.iconst X98.here hx rfl (hb hby at_169) k) ?_
                    exact J170 _ (Or.inr ⟨rfl, fun q => ((own_hd_iff hn).mp q).elim (fun a => hc123 a.2) (fun q => q.elim (fun a => hc129 a.1) (fun q => q.elim (fun a => hc149 a.2) (fun a => hc162 a.2)))⟩)
                · refine GoW.via (S' := T98.setTop (mkF m 169 #[.val (.int p1), .val (.int p2), .val (.int p3), .val (.int p4), .val (.int n), .val (.int r1), .val (.int r3), .val (.int r5), .val (.int r7), .val (.ref r87), .val (.int wc), .val (.int lc), .val (.ref r92), .val (.ref r98), .unset, .unset, .unset] [])) (fun _ k => XS.icmpYes X98.here hx rfl (pc0 := 155) (pc' := 169) rfl (hb hby at_155) rfl (flt hc155).2.2.2 (by decide) (by decide) k) ?_
                  refine GoW.via (S' := T98.setTop (mkF m 170 #[.val (.int p1), .val (.int p2), .val (.int p3), .val (.int p4), .val (.int n), .val (.int r1), .val (.int r3), .val (.int r5), .val (.int r7), .val (.ref r87), .val (.int wc), .val (.int lc), .val (.ref r92), .val (.ref r98), .unset, .unset, .unset] [(.int (0 : Int32))])) (fun _ k => XS.iconst X98.here hx rfl (hb hby at_169) k) ?_
                  exact J170 _ (Or.inr ⟨rfl, fun q => ((own_hd_iff hn).mp q).elim (fun a => hc123 a.2) (fun q => q.elim (fun a => hc129 a.1) (fun q => q.elim (fun a => hc149 a.2) (fun a => hc155 a.1)))⟩)
            · refine GoW.via (S' := T98.setTop (mkF m 152 #[.val (.int p1), .val (.int p2), .val (.int p3), .val (.int p4), .val (.int n), .val (.int r1), .val (.int r3), .val (.int r5), .val (.int r7), .val (.ref r87), .val (.int wc), .val (.int lc), .val (.ref r92), .val (.ref r98), .unset, .unset, .unset] [])) (fun _ k => XS.icmpYes X98.here hx rfl (pc0 := 142) (pc' := 152) rfl (hb hby at_142) rfl (flt hc142).2.2.2 (by decide) (by decide) k) ?_
              refine GoW.via (S' := T98.setTop (mkF m 154 #[.val (.int p1), .val (.int p2), .val (.int p3), .val (.int p4), .val (.int n), .val (.int r1), .val (.int r3), .val (.int r5), .val (.int r7), .val (.ref r87), .val (.int wc), .val (.int lc), .val (.ref r92), .val (.ref r98), .unset, .unset, .unset] [(.int n)])) (fun _ k => XS.iload X98.here hx rfl (hb hby at_152) rfl k) ?_
              refine GoW.via (S' := T98.setTop (mkF m 155 #[.val (.int p1), .val (.int p2), .val (.int p3), .val (.int p4), .val (.int n), .val (.int r1), .val (.int r3), .val (.int r5), .val (.int r7), .val (.ref r87), .val (.int wc), .val (.int lc), .val (.ref r92), .val (.ref r98), .unset, .unset, .unset] [(.int (3 : Int32)), (.int n)])) (fun _ k => XS.iconst X98.here hx rfl (hb hby at_154) k) ?_
              rcases Decidable.em ((3 : Int32) < n) with hc155 | hc155
              · refine GoW.via (S' := T98.setTop (mkF m 158 #[.val (.int p1), .val (.int p2), .val (.int p3), .val (.int p4), .val (.int n), .val (.int r1), .val (.int r3), .val (.int r5), .val (.int r7), .val (.ref r87), .val (.int wc), .val (.int lc), .val (.ref r92), .val (.ref r98), .unset, .unset, .unset] [])) (fun _ k => XS.icmpNo X98.here hx rfl (hb hby at_155) rfl (tlt hc155).2.2.2 k) ?_
                refine GoW.via (S' := T98.setTop (mkF m 160 #[.val (.int p1), .val (.int p2), .val (.int p3), .val (.int p4), .val (.int n), .val (.int r1), .val (.int r3), .val (.int r5), .val (.int r7), .val (.ref r87), .val (.int wc), .val (.int lc), .val (.ref r92), .val (.ref r98), .unset, .unset, .unset] [(.int r7)])) (fun _ k => XS.iload X98.here hx rfl (hb hby at_158) rfl k) ?_
                refine GoW.via (S' := T98.setTop (mkF m 162 #[.val (.int p1), .val (.int p2), .val (.int p3), .val (.int p4), .val (.int n), .val (.int r1), .val (.int r3), .val (.int r5), .val (.int r7), .val (.ref r87), .val (.int wc), .val (.int lc), .val (.ref r92), .val (.ref r98), .unset, .unset, .unset] [(.int (46 : Int32)), (.int r7)])) (fun _ k => XS.bipush X98.here hx rfl (hb hby at_160) k) ?_
                rcases Decidable.em (r7 = (46 : Int32)) with hc162 | hc162
                · refine GoW.via (S' := T98.setTop (mkF m 165 #[.val (.int p1), .val (.int p2), .val (.int p3), .val (.int p4), .val (.int n), .val (.int r1), .val (.int r3), .val (.int r5), .val (.int r7), .val (.ref r87), .val (.int wc), .val (.int lc), .val (.ref r92), .val (.ref r98), .unset, .unset, .unset] [])) (fun _ k => XS.icmpNo X98.here hx rfl (hb hby at_162) rfl (teq hc162).2 k) ?_
                  refine GoW.via (S' := T98.setTop (mkF m 166 #[.val (.int p1), .val (.int p2), .val (.int p3), .val (.int p4), .val (.int n), .val (.int r1), .val (.int r3), .val (.int r5), .val (.int r7), .val (.ref r87), .val (.int wc), .val (.int lc), .val (.ref r92), .val (.ref r98), .unset, .unset, .unset] [(.int (1 : Int32))])) (fun _ k => XS.iconst X98.here hx rfl (hb hby at_165) k) ?_
                  refine GoW.via (S' := T98.setTop (mkF m 170 #[.val (.int p1), .val (.int p2), .val (.int p3), .val (.int p4), .val (.int n), .val (.int r1), .val (.int r3), .val (.int r5), .val (.int r7), .val (.ref r87), .val (.int wc), .val (.int lc), .val (.ref r92), .val (.ref r98), .unset, .unset, .unset] [(.int (1 : Int32))])) (fun _ k => XS.goto X98.here hx rfl (pc0 := 166) (pc' := 170) rfl (hb hby at_166) (by decide) (by decide) k) ?_
                  exact J170 _ (Or.inl ⟨rfl, (own_hd_iff hn).mpr (Or.inr (Or.inr (Or.inr (⟨hc155, hc162⟩))))⟩)
                · refine GoW.via (S' := T98.setTop (mkF m 169 #[.val (.int p1), .val (.int p2), .val (.int p3), .val (.int p4), .val (.int n), .val (.int r1), .val (.int r3), .val (.int r5), .val (.int r7), .val (.ref r87), .val (.int wc), .val (.int lc), .val (.ref r92), .val (.ref r98), .unset, .unset, .unset] [])) (fun _ k => XS.icmpYes X98.here hx rfl (pc0 := 162) (pc' := 169) rfl (hb hby at_162) rfl (feq hc162).2 (by decide) (by decide) k) ?_
                  refine GoW.via (S' := T98.setTop (mkF m 170 #[.val (.int p1), .val (.int p2), .val (.int p3), .val (.int p4), .val (.int n), .val (.int r1), .val (.int r3), .val (.int r5), .val (.int r7), .val (.ref r87), .val (.int wc), .val (.int lc), .val (.ref r92), .val (.ref r98), .unset, .unset, .unset] [(.int (0 : Int32))])) (fun _ k => XS.iconst X98.here hx rfl (hb hby at_169) k) ?_
                  exact J170 _ (Or.inr ⟨rfl, fun q => ((own_hd_iff hn).mp q).elim (fun a => hc123 a.2) (fun q => q.elim (fun a => hc129 a.1) (fun q => q.elim (fun a => hc142 a.1) (fun a => hc162 a.2)))⟩)
              · refine GoW.via (S' := T98.setTop (mkF m 169 #[.val (.int p1), .val (.int p2), .val (.int p3), .val (.int p4), .val (.int n), .val (.int r1), .val (.int r3), .val (.int r5), .val (.int r7), .val (.ref r87), .val (.int wc), .val (.int lc), .val (.ref r92), .val (.ref r98), .unset, .unset, .unset] [])) (fun _ k => XS.icmpYes X98.here hx rfl (pc0 := 155) (pc' := 169) rfl (hb hby at_155) rfl (flt hc155).2.2.2 (by decide) (by decide) k) ?_
                refine GoW.via (S' := T98.setTop (mkF m 170 #[.val (.int p1), .val (.int p2), .val (.int p3), .val (.int p4), .val (.int n), .val (.int r1), .val (.int r3), .val (.int r5), .val (.int r7), .val (.ref r87), .val (.int wc), .val (.int lc), .val (.ref r92), .val (.ref r98), .unset, .unset, .unset] [(.int (0 : Int32))])) (fun _ k => XS.iconst X98.here hx rfl (hb hby at_169) k) ?_
                exact J170 _ (Or.inr ⟨rfl, fun q => ((own_hd_iff hn).mp q).elim (fun a => hc123 a.2) (fun q => q.elim (fun a => hc129 a.1) (fun q => q.elim (fun a => hc142 a.1) (fun a => hc155 a.1)))⟩)
      · refine GoW.via (S' := T98.setTop (mkF m 126 #[.val (.int p1), .val (.int p2), .val (.int p3), .val (.int p4), .val (.int n), .val (.int r1), .val (.int r3), .val (.int r5), .val (.int r7), .val (.ref r87), .val (.int wc), .val (.int lc), .val (.ref r92), .val (.ref r98), .unset, .unset, .unset] [])) (fun _ k => XS.ifYes X98.here hx rfl (pc0 := 116) (pc' := 126) rfl (hb hby at_116) rfl ((if0 _ _).trans (flt hc116).2.2.2) (by decide) (by decide) k) ?_
        refine GoW.via (S' := T98.setTop (mkF m 128 #[.val (.int p1), .val (.int p2), .val (.int p3), .val (.int p4), .val (.int n), .val (.int r1), .val (.int r3), .val (.int r5), .val (.int r7), .val (.ref r87), .val (.int wc), .val (.int lc), .val (.ref r92), .val (.ref r98), .unset, .unset, .unset] [(.int n)])) (fun _ k => XS.iload X98.here hx rfl (hb hby at_126) rfl k) ?_
        refine GoW.via (S' := T98.setTop (mkF m 129 #[.val (.int p1), .val (.int p2), .val (.int p3), .val (.int p4), .val (.int n), .val (.int r1), .val (.int r3), .val (.int r5), .val (.int r7), .val (.ref r87), .val (.int wc), .val (.int lc), .val (.ref r92), .val (.ref r98), .unset, .unset, .unset] [(.int (1 : Int32)), (.int n)])) (fun _ k => XS.iconst X98.here hx rfl (hb hby at_128) k) ?_
        rcases Decidable.em ((1 : Int32) < n) with hc129 | hc129
        · refine GoW.via (S' := T98.setTop (mkF m 132 #[.val (.int p1), .val (.int p2), .val (.int p3), .val (.int p4), .val (.int n), .val (.int r1), .val (.int r3), .val (.int r5), .val (.int r7), .val (.ref r87), .val (.int wc), .val (.int lc), .val (.ref r92), .val (.ref r98), .unset, .unset, .unset] [])) (fun _ k => XS.icmpNo X98.here hx rfl (hb hby at_129) rfl (tlt hc129).2.2.2 k) ?_
          refine GoW.via (S' := T98.setTop (mkF m 134 #[.val (.int p1), .val (.int p2), .val (.int p3), .val (.int p4), .val (.int n), .val (.int r1), .val (.int r3), .val (.int r5), .val (.int r7), .val (.ref r87), .val (.int wc), .val (.int lc), .val (.ref r92), .val (.ref r98), .unset, .unset, .unset] [(.int r3)])) (fun _ k => XS.iload X98.here hx rfl (hb hby at_132) rfl k) ?_
          refine GoW.via (S' := T98.setTop (mkF m 136 #[.val (.int p1), .val (.int p2), .val (.int p3), .val (.int p4), .val (.int n), .val (.int r1), .val (.int r3), .val (.int r5), .val (.int r7), .val (.ref r87), .val (.int wc), .val (.int lc), .val (.ref r92), .val (.ref r98), .unset, .unset, .unset] [(.int (46 : Int32)), (.int r3)])) (fun _ k => XS.bipush X98.here hx rfl (hb hby at_134) k) ?_
          rcases Decidable.em (r3 = (46 : Int32)) with hc136 | hc136
          · refine GoW.via (S' := T98.setTop (mkF m 165 #[.val (.int p1), .val (.int p2), .val (.int p3), .val (.int p4), .val (.int n), .val (.int r1), .val (.int r3), .val (.int r5), .val (.int r7), .val (.ref r87), .val (.int wc), .val (.int lc), .val (.ref r92), .val (.ref r98), .unset, .unset, .unset] [])) (fun _ k => XS.icmpYes X98.here hx rfl (pc0 := 136) (pc' := 165) rfl (hb hby at_136) rfl (teq hc136).1 (by decide) (by decide) k) ?_
            refine GoW.via (S' := T98.setTop (mkF m 166 #[.val (.int p1), .val (.int p2), .val (.int p3), .val (.int p4), .val (.int n), .val (.int r1), .val (.int r3), .val (.int r5), .val (.int r7), .val (.ref r87), .val (.int wc), .val (.int lc), .val (.ref r92), .val (.ref r98), .unset, .unset, .unset] [(.int (1 : Int32))])) (fun _ k => XS.iconst X98.here hx rfl (hb hby at_165) k) ?_
            refine GoW.via (S' := T98.setTop (mkF m 170 #[.val (.int p1), .val (.int p2), .val (.int p3), .val (.int p4), .val (.int n), .val (.int r1), .val (.int r3), .val (.int r5), .val (.int r7), .val (.ref r87), .val (.int wc), .val (.int lc), .val (.ref r92), .val (.ref r98), .unset, .unset, .unset] [(.int (1 : Int32))])) (fun _ k => XS.goto X98.here hx rfl (pc0 := 166) (pc' := 170) rfl (hb hby at_166) (by decide) (by decide) k) ?_
            exact J170 _ (Or.inl ⟨rfl, (own_hd_iff hn).mpr (Or.inr (Or.inl ⟨hc129, hc136⟩))⟩)
          · refine GoW.via (S' := T98.setTop (mkF m 139 #[.val (.int p1), .val (.int p2), .val (.int p3), .val (.int p4), .val (.int n), .val (.int r1), .val (.int r3), .val (.int r5), .val (.int r7), .val (.ref r87), .val (.int wc), .val (.int lc), .val (.ref r92), .val (.ref r98), .unset, .unset, .unset] [])) (fun _ k => XS.icmpNo X98.here hx rfl (hb hby at_136) rfl (feq hc136).1 k) ?_
            refine GoW.via (S' := T98.setTop (mkF m 141 #[.val (.int p1), .val (.int p2), .val (.int p3), .val (.int p4), .val (.int n), .val (.int r1), .val (.int r3), .val (.int r5), .val (.int r7), .val (.ref r87), .val (.int wc), .val (.int lc), .val (.ref r92), .val (.ref r98), .unset, .unset, .unset] [(.int n)])) (fun _ k => XS.iload X98.here hx rfl (hb hby at_139) rfl k) ?_
            refine GoW.via (S' := T98.setTop (mkF m 142 #[.val (.int p1), .val (.int p2), .val (.int p3), .val (.int p4), .val (.int n), .val (.int r1), .val (.int r3), .val (.int r5), .val (.int r7), .val (.ref r87), .val (.int wc), .val (.int lc), .val (.ref r92), .val (.ref r98), .unset, .unset, .unset] [(.int (2 : Int32)), (.int n)])) (fun _ k => XS.iconst X98.here hx rfl (hb hby at_141) k) ?_
            rcases Decidable.em ((2 : Int32) < n) with hc142 | hc142
            · refine GoW.via (S' := T98.setTop (mkF m 145 #[.val (.int p1), .val (.int p2), .val (.int p3), .val (.int p4), .val (.int n), .val (.int r1), .val (.int r3), .val (.int r5), .val (.int r7), .val (.ref r87), .val (.int wc), .val (.int lc), .val (.ref r92), .val (.ref r98), .unset, .unset, .unset] [])) (fun _ k => XS.icmpNo X98.here hx rfl (hb hby at_142) rfl (tlt hc142).2.2.2 k) ?_
              refine GoW.via (S' := T98.setTop (mkF m 147 #[.val (.int p1), .val (.int p2), .val (.int p3), .val (.int p4), .val (.int n), .val (.int r1), .val (.int r3), .val (.int r5), .val (.int r7), .val (.ref r87), .val (.int wc), .val (.int lc), .val (.ref r92), .val (.ref r98), .unset, .unset, .unset] [(.int r5)])) (fun _ k => XS.iload X98.here hx rfl (hb hby at_145) rfl k) ?_
              refine GoW.via (S' := T98.setTop (mkF m 149 #[.val (.int p1), .val (.int p2), .val (.int p3), .val (.int p4), .val (.int n), .val (.int r1), .val (.int r3), .val (.int r5), .val (.int r7), .val (.ref r87), .val (.int wc), .val (.int lc), .val (.ref r92), .val (.ref r98), .unset, .unset, .unset] [(.int (46 : Int32)), (.int r5)])) (fun _ k => XS.bipush X98.here hx rfl (hb hby at_147) k) ?_
              rcases Decidable.em (r5 = (46 : Int32)) with hc149 | hc149
              · refine GoW.via (S' := T98.setTop (mkF m 165 #[.val (.int p1), .val (.int p2), .val (.int p3), .val (.int p4), .val (.int n), .val (.int r1), .val (.int r3), .val (.int r5), .val (.int r7), .val (.ref r87), .val (.int wc), .val (.int lc), .val (.ref r92), .val (.ref r98), .unset, .unset, .unset] [])) (fun _ k => XS.icmpYes X98.here hx rfl (pc0 := 149) (pc' := 165) rfl (hb hby at_149) rfl (teq hc149).1 (by decide) (by decide) k) ?_
                refine GoW.via (S' := T98.setTop (mkF m 166 #[.val (.int p1), .val (.int p2), .val (.int p3), .val (.int p4), .val (.int n), .val (.int r1), .val (.int r3), .val (.int r5), .val (.int r7), .val (.ref r87), .val (.int wc), .val (.int lc), .val (.ref r92), .val (.ref r98), .unset, .unset, .unset] [(.int (1 : Int32))])) (fun _ k => XS.iconst X98.here hx rfl (hb hby at_165) k) ?_
                refine GoW.via (S' := T98.setTop (mkF m 170 #[.val (.int p1), .val (.int p2), .val (.int p3), .val (.int p4), .val (.int n), .val (.int r1), .val (.int r3), .val (.int r5), .val (.int r7), .val (.ref r87), .val (.int wc), .val (.int lc), .val (.ref r92), .val (.ref r98), .unset, .unset, .unset] [(.int (1 : Int32))])) (fun _ k => XS.goto X98.here hx rfl (pc0 := 166) (pc' := 170) rfl (hb hby at_166) (by decide) (by decide) k) ?_
                exact J170 _ (Or.inl ⟨rfl, (own_hd_iff hn).mpr (Or.inr (Or.inr (Or.inl ⟨hc142, hc149⟩)))⟩)
              · refine GoW.via (S' := T98.setTop (mkF m 152 #[.val (.int p1), .val (.int p2), .val (.int p3), .val (.int p4), .val (.int n), .val (.int r1), .val (.int r3), .val (.int r5), .val (.int r7), .val (.ref r87), .val (.int wc), .val (.int lc), .val (.ref r92), .val (.ref r98), .unset, .unset, .unset] [])) (fun _ k => XS.icmpNo X98.here hx rfl (hb hby at_149) rfl (feq hc149).1 k) ?_
                refine GoW.via (S' := T98.setTop (mkF m 154 #[.val (.int p1), .val (.int p2), .val (.int p3), .val (.int p4), .val (.int n), .val (.int r1), .val (.int r3), .val (.int r5), .val (.int r7), .val (.ref r87), .val (.int wc), .val (.int lc), .val (.ref r92), .val (.ref r98), .unset, .unset, .unset] [(.int n)])) (fun _ k => XS.iload X98.here hx rfl (hb hby at_152) rfl k) ?_
                refine GoW.via (S' := T98.setTop (mkF m 155 #[.val (.int p1), .val (.int p2), .val (.int p3), .val (.int p4), .val (.int n), .val (.int r1), .val (.int r3), .val (.int r5), .val (.int r7), .val (.ref r87), .val (.int wc), .val (.int lc), .val (.ref r92), .val (.ref r98), .unset, .unset, .unset] [(.int (3 : Int32)), (.int n)])) (fun _ k => XS.iconst X98.here hx rfl (hb hby at_154) k) ?_
                rcases Decidable.em ((3 : Int32) < n) with hc155 | hc155
                · refine GoW.via (S' := T98.setTop (mkF m 158 #[.val (.int p1), .val (.int p2), .val (.int p3), .val (.int p4), .val (.int n), .val (.int r1), .val (.int r3), .val (.int r5), .val (.int r7), .val (.ref r87), .val (.int wc), .val (.int lc), .val (.ref r92), .val (.ref r98), .unset, .unset, .unset] [])) (fun _ k => XS.icmpNo X98.here hx rfl (hb hby at_155) rfl (tlt hc155).2.2.2 k) ?_
                  refine GoW.via (S' := T98.setTop (mkF m 160 #[.val (.int p1), .val (.int p2), .val (.int p3), .val (.int p4), .val (.int n), .val (.int r1), .val (.int r3), .val (.int r5), .val (.int r7), .val (.ref r87), .val (.int wc), .val (.int lc), .val (.ref r92), .val (.ref r98), .unset, .unset, .unset] [(.int r7)])) (fun _ k => XS.iload X98.here hx rfl (hb hby at_158) rfl k) ?_
                  refine GoW.via (S' := T98.setTop (mkF m 162 #[.val (.int p1), .val (.int p2), .val (.int p3), .val (.int p4), .val (.int n), .val (.int r1), .val (.int r3), .val (.int r5), .val (.int r7), .val (.ref r87), .val (.int wc), .val (.int lc), .val (.ref r92), .val (.ref r98), .unset, .unset, .unset] [(.int (46 : Int32)), (.int r7)])) (fun _ k => XS.bipush X98.here hx rfl (hb hby at_160) k) ?_
                  rcases Decidable.em (r7 = (46 : Int32)) with hc162 | hc162
                  · refine GoW.via (S' := T98.setTop (mkF m 165 #[.val (.int p1), .val (.int p2), .val (.int p3), .val (.int p4), .val (.int n), .val (.int r1), .val (.int r3), .val (.int r5), .val (.int r7), .val (.ref r87), .val (.int wc), .val (.int lc), .val (.ref r92), .val (.ref r98), .unset, .unset, .unset] [])) (fun _ k => XS.icmpNo X98.here hx rfl (hb hby at_162) rfl (teq hc162).2 k) ?_
                    refine GoW.via (S' := T98.setTop (mkF m 166 #[.val (.int p1), .val (.int p2), .val (.int p3), .val (.int p4), .val (.int n), .val (.int r1), .val (.int r3), .val (.int r5), .val (.int r7), .val (.ref r87), .val (.int wc), .val (.int lc), .val (.ref r92), .val (.ref r98), .unset, .unset, .unset] [(.int (1 : Int32))])) (fun _ k => XS.iconst X98.here hx rfl (hb hby at_165) k) ?_
                    refine GoW.via (S' := T98.setTop (mkF m 170 #[.val (.int p1), .val (.int p2), .val (.int p3), .val (.int p4), .val (.int n), .val (.int r1), .val (.int r3), .val (.int r5), .val (.int r7), .val (.ref r87), .val (.int wc), .val (.int lc), .val (.ref r92), .val (.ref r98), .unset, .unset, .unset] [(.int (1 : Int32))])) (fun _ k => XS.goto X98.here hx rfl (pc0 := 166) (pc' := 170) rfl (hb hby at_166) (by decide) (by decide) k) ?_
                    exact J170 _ (Or.inl ⟨rfl, (own_hd_iff hn).mpr (Or.inr (Or.inr (Or.inr (⟨hc155, hc162⟩))))⟩)
                  · refine GoW.via (S' := T98.setTop (mkF m 169 #[.val (.int p1), .val (.int p2), .val (.int p3), .val (.int p4), .val (.int n), .val (.int r1), .val (.int r3), .val (.int r5), .val (.int r7), .val (.ref r87), .val (.int wc), .val (.int lc), .val (.ref r92), .val (.ref r98), .unset, .unset, .unset] [])) (fun _ k => XS.icmpYes X98.here hx rfl (pc0 := 162) (pc' := 169) rfl (hb hby at_162) rfl (feq hc162).2 (by decide) (by decide) k) ?_
                    refine GoW.via (S' := T98.setTop (mkF m 170 #[.val (.int p1), .val (.int p2), .val (.int p3), .val (.int p4), .val (.int n), .val (.int r1), .val (.int r3), .val (.int r5), .val (.int r7), .val (.ref r87), .val (.int wc), .val (.int lc), .val (.ref r92), .val (.ref r98), .unset, .unset, .unset] [(.int (0 : Int32))])) (fun _ k => XS.iconst X98.here hx rfl (hb hby at_169) k) ?_
                    exact J170 _ (Or.inr ⟨rfl, fun q => ((own_hd_iff hn).mp q).elim (fun a => hc116 a.1) (fun q => q.elim (fun a => hc136 a.2) (fun q => q.elim (fun a => hc149 a.2) (fun a => hc162 a.2)))⟩)
                · refine GoW.via (S' := T98.setTop (mkF m 169 #[.val (.int p1), .val (.int p2), .val (.int p3), .val (.int p4), .val (.int n), .val (.int r1), .val (.int r3), .val (.int r5), .val (.int r7), .val (.ref r87), .val (.int wc), .val (.int lc), .val (.ref r92), .val (.ref r98), .unset, .unset, .unset] [])) (fun _ k => XS.icmpYes X98.here hx rfl (pc0 := 155) (pc' := 169) rfl (hb hby at_155) rfl (flt hc155).2.2.2 (by decide) (by decide) k) ?_
                  refine GoW.via (S' := T98.setTop (mkF m 170 #[.val (.int p1), .val (.int p2), .val (.int p3), .val (.int p4), .val (.int n), .val (.int r1), .val (.int r3), .val (.int r5), .val (.int r7), .val (.ref r87), .val (.int wc), .val (.int lc), .val (.ref r92), .val (.ref r98), .unset, .unset, .unset] [(.int (0 : Int32))])) (fun _ k => XS.iconst X98.here hx rfl (hb hby at_169) k) ?_
                  exact J170 _ (Or.inr ⟨rfl, fun q => ((own_hd_iff hn).mp q).elim (fun a => hc116 a.1) (fun q => q.elim (fun a => hc136 a.2) (fun q => q.elim (fun a => hc149 a.2) (fun a => hc155 a.1)))⟩)
            · refine GoW.via (S' := T98.setTop (mkF m 152 #[.val (.int p1), .val (.int p2), .val (.int p3), .val (.int p4), .val (.int n), .val (.int r1), .val (.int r3), .val (.int r5), .val (.int r7), .val (.ref r87), .val (.int wc), .val (.int lc), .val (.ref r92), .val (.ref r98), .unset, .unset, .unset] [])) (fun _ k => XS.icmpYes X98.here hx rfl (pc0 := 142) (pc' := 152) rfl (hb hby at_142) rfl (flt hc142).2.2.2 (by decide) (by decide) k) ?_
              refine GoW.via (S' := T98.setTop (mkF m 154 #[.val (.int p1), .val (.int p2), .val (.int p3), .val (.int p4), .val (.int n), .val (.int r1), .val (.int r3), .val (.int r5), .val (.int r7), .val (.ref r87), .val (.int wc), .val (.int lc), .val (.ref r92), .val (.ref r98), .unset, .unset, .unset] [(.int n)])) (fun _ k => XS.iload X98.here hx rfl (hb hby at_152) rfl k) ?_
              refine GoW.via (S' := T98.setTop (mkF m 155 #[.val (.int p1), .val (.int p2), .val (.int p3), .val (.int p4), .val (.int n), .val (.int r1), .val (.int r3), .val (.int r5), .val (.int r7), .val (.ref r87), .val (.int wc), .val (.int lc), .val (.ref r92), .val (.ref r98), .unset, .unset, .unset] [(.int (3 : Int32)), (.int n)])) (fun _ k => XS.iconst X98.here hx rfl (hb hby at_154) k) ?_
              rcases Decidable.em ((3 : Int32) < n) with hc155 | hc155
              · refine GoW.via (S' := T98.setTop (mkF m 158 #[.val (.int p1), .val (.int p2), .val (.int p3), .val (.int p4), .val (.int n), .val (.int r1), .val (.int r3), .val (.int r5), .val (.int r7), .val (.ref r87), .val (.int wc), .val (.int lc), .val (.ref r92), .val (.ref r98), .unset, .unset, .unset] [])) (fun _ k => XS.icmpNo X98.here hx rfl (hb hby at_155) rfl (tlt hc155).2.2.2 k) ?_
                refine GoW.via (S' := T98.setTop (mkF m 160 #[.val (.int p1), .val (.int p2), .val (.int p3), .val (.int p4), .val (.int n), .val (.int r1), .val (.int r3), .val (.int r5), .val (.int r7), .val (.ref r87), .val (.int wc), .val (.int lc), .val (.ref r92), .val (.ref r98), .unset, .unset, .unset] [(.int r7)])) (fun _ k => XS.iload X98.here hx rfl (hb hby at_158) rfl k) ?_
                refine GoW.via (S' := T98.setTop (mkF m 162 #[.val (.int p1), .val (.int p2), .val (.int p3), .val (.int p4), .val (.int n), .val (.int r1), .val (.int r3), .val (.int r5), .val (.int r7), .val (.ref r87), .val (.int wc), .val (.int lc), .val (.ref r92), .val (.ref r98), .unset, .unset, .unset] [(.int (46 : Int32)), (.int r7)])) (fun _ k => XS.bipush X98.here hx rfl (hb hby at_160) k) ?_
                rcases Decidable.em (r7 = (46 : Int32)) with hc162 | hc162
                · refine GoW.via (S' := T98.setTop (mkF m 165 #[.val (.int p1), .val (.int p2), .val (.int p3), .val (.int p4), .val (.int n), .val (.int r1), .val (.int r3), .val (.int r5), .val (.int r7), .val (.ref r87), .val (.int wc), .val (.int lc), .val (.ref r92), .val (.ref r98), .unset, .unset, .unset] [])) (fun _ k => XS.icmpNo X98.here hx rfl (hb hby at_162) rfl (teq hc162).2 k) ?_
                  refine GoW.via (S' := T98.setTop (mkF m 166 #[.val (.int p1), .val (.int p2), .val (.int p3), .val (.int p4), .val (.int n), .val (.int r1), .val (.int r3), .val (.int r5), .val (.int r7), .val (.ref r87), .val (.int wc), .val (.int lc), .val (.ref r92), .val (.ref r98), .unset, .unset, .unset] [(.int (1 : Int32))])) (fun _ k => XS.iconst X98.here hx rfl (hb hby at_165) k) ?_
                  refine GoW.via (S' := T98.setTop (mkF m 170 #[.val (.int p1), .val (.int p2), .val (.int p3), .val (.int p4), .val (.int n), .val (.int r1), .val (.int r3), .val (.int r5), .val (.int r7), .val (.ref r87), .val (.int wc), .val (.int lc), .val (.ref r92), .val (.ref r98), .unset, .unset, .unset] [(.int (1 : Int32))])) (fun _ k => XS.goto X98.here hx rfl (pc0 := 166) (pc' := 170) rfl (hb hby at_166) (by decide) (by decide) k) ?_
                  exact J170 _ (Or.inl ⟨rfl, (own_hd_iff hn).mpr (Or.inr (Or.inr (Or.inr (⟨hc155, hc162⟩))))⟩)
                · refine GoW.via (S' := T98.setTop (mkF m 169 #[.val (.int p1), .val (.int p2), .val (.int p3), .val (.int p4), .val (.int n), .val (.int r1), .val (.int r3), .val (.int r5), .val (.int r7), .val (.ref r87), .val (.int wc), .val (.int lc), .val (.ref r92), .val (.ref r98), .unset, .unset, .unset] [])) (fun _ k => XS.icmpYes X98.here hx rfl (pc0 := 162) (pc' := 169) rfl (hb hby at_162) rfl (feq hc162).2 (by decide) (by decide) k) ?_
                  refine GoW.via (S' := T98.setTop (mkF m 170 #[.val (.int p1), .val (.int p2), .val (.int p3), .val (.int p4), .val (.int n), .val (.int r1), .val (.int r3), .val (.int r5), .val (.int r7), .val (.ref r87), .val (.int wc), .val (.int lc), .val (.ref r92), .val (.ref r98), .unset, .unset, .unset] [(.int (0 : Int32))])) (fun _ k => XS.iconst X98.here hx rfl (hb hby at_169) k) ?_
                  exact J170 _ (Or.inr ⟨rfl, fun q => ((own_hd_iff hn).mp q).elim (fun a => hc116 a.1) (fun q => q.elim (fun a => hc136 a.2) (fun q => q.elim (fun a => hc142 a.1) (fun a => hc162 a.2)))⟩)
              · refine GoW.via (S' := T98.setTop (mkF m 169 #[.val (.int p1), .val (.int p2), .val (.int p3), .val (.int p4), .val (.int n), .val (.int r1), .val (.int r3), .val (.int r5), .val (.int r7), .val (.ref r87), .val (.int wc), .val (.int lc), .val (.ref r92), .val (.ref r98), .unset, .unset, .unset] [])) (fun _ k => XS.icmpYes X98.here hx rfl (pc0 := 155) (pc' := 169) rfl (hb hby at_155) rfl (flt hc155).2.2.2 (by decide) (by decide) k) ?_
                refine GoW.via (S' := T98.setTop (mkF m 170 #[.val (.int p1), .val (.int p2), .val (.int p3), .val (.int p4), .val (.int n), .val (.int r1), .val (.int r3), .val (.int r5), .val (.int r7), .val (.ref r87), .val (.int wc), .val (.int lc), .val (.ref r92), .val (.ref r98), .unset, .unset, .unset] [(.int (0 : Int32))])) (fun _ k => XS.iconst X98.here hx rfl (hb hby at_169) k) ?_
                exact J170 _ (Or.inr ⟨rfl, fun q => ((own_hd_iff hn).mp q).elim (fun a => hc116 a.1) (fun q => q.elim (fun a => hc136 a.2) (fun q => q.elim (fun a => hc142 a.1) (fun a => hc155 a.1)))⟩)
        · refine GoW.via (S' := T98.setTop (mkF m 139 #[.val (.int p1), .val (.int p2), .val (.int p3), .val (.int p4), .val (.int n), .val (.int r1), .val (.int r3), .val (.int r5), .val (.int r7), .val (.ref r87), .val (.int wc), .val (.int lc), .val (.ref r92), .val (.ref r98), .unset, .unset, .unset] [])) (fun _ k => XS.icmpYes X98.here hx rfl (pc0 := 129) (pc' := 139) rfl (hb hby at_129) rfl (flt hc129).2.2.2 (by decide) (by decide) k) ?_
          refine GoW.via (S' := T98.setTop (mkF m 141 #[.val (.int p1), .val (.int p2), .val (.int p3), .val (.int p4), .val (.int n), .val (.int r1), .val (.int r3), .val (.int r5), .val (.int r7), .val (.ref r87), .val (.int wc), .val (.int lc), .val (.ref r92), .val (.ref r98), .unset, .unset, .unset] [(.int n)])) (fun _ k => XS.iload X98.here hx rfl (hb hby at_139) rfl k) ?_
          refine GoW.via (S' := T98.setTop (mkF m 142 #[.val (.int p1), .val (.int p2), .val (.int p3), .val (.int p4), .val (.int n), .val (.int r1), .val (.int r3), .val (.int r5), .val (.int r7), .val (.ref r87), .val (.int wc), .val (.int lc), .val (.ref r92), .val (.ref r98), .unset, .unset, .unset] [(.int (2 : Int32)), (.int n)])) (fun _ k => XS.iconst X98.here hx rfl (hb hby at_141) k) ?_
          rcases Decidable.em ((2 : Int32) < n) with hc142 | hc142
          · refine GoW.via (S' := T98.setTop (mkF m 145 #[.val (.int p1), .val (.int p2), .val (.int p3), .val (.int p4), .val (.int n), .val (.int r1), .val (.int r3), .val (.int r5), .val (.int r7), .val (.ref r87), .val (.int wc), .val (.int lc), .val (.ref r92), .val (.ref r98), .unset, .unset, .unset] [])) (fun _ k => XS.icmpNo X98.here hx rfl (hb hby at_142) rfl (tlt hc142).2.2.2 k) ?_
            refine GoW.via (S' := T98.setTop (mkF m 147 #[.val (.int p1), .val (.int p2), .val (.int p3), .val (.int p4), .val (.int n), .val (.int r1), .val (.int r3), .val (.int r5), .val (.int r7), .val (.ref r87), .val (.int wc), .val (.int lc), .val (.ref r92), .val (.ref r98), .unset, .unset, .unset] [(.int r5)])) (fun _ k => XS.iload X98.here hx rfl (hb hby at_145) rfl k) ?_
            refine GoW.via (S' := T98.setTop (mkF m 149 #[.val (.int p1), .val (.int p2), .val (.int p3), .val (.int p4), .val (.int n), .val (.int r1), .val (.int r3), .val (.int r5), .val (.int r7), .val (.ref r87), .val (.int wc), .val (.int lc), .val (.ref r92), .val (.ref r98), .unset, .unset, .unset] [(.int (46 : Int32)), (.int r5)])) (fun _ k => XS.bipush X98.here hx rfl (hb hby at_147) k) ?_
            rcases Decidable.em (r5 = (46 : Int32)) with hc149 | hc149
            · refine GoW.via (S' := T98.setTop (mkF m 165 #[.val (.int p1), .val (.int p2), .val (.int p3), .val (.int p4), .val (.int n), .val (.int r1), .val (.int r3), .val (.int r5), .val (.int r7), .val (.ref r87), .val (.int wc), .val (.int lc), .val (.ref r92), .val (.ref r98), .unset, .unset, .unset] [])) (fun _ k => XS.icmpYes X98.here hx rfl (pc0 := 149) (pc' := 165) rfl (hb hby at_149) rfl (teq hc149).1 (by decide) (by decide) k) ?_
              refine GoW.via (S' := T98.setTop (mkF m 166 #[.val (.int p1), .val (.int p2), .val (.int p3), .val (.int p4), .val (.int n), .val (.int r1), .val (.int r3), .val (.int r5), .val (.int r7), .val (.ref r87), .val (.int wc), .val (.int lc), .val (.ref r92), .val (.ref r98), .unset, .unset, .unset] [(.int (1 : Int32))])) (fun _ k => XS.iconst X98.here hx rfl (hb hby at_165) k) ?_
              refine GoW.via (S' := T98.setTop (mkF m 170 #[.val (.int p1), .val (.int p2), .val (.int p3), .val (.int p4), .val (.int n), .val (.int r1), .val (.int r3), .val (.int r5), .val (.int r7), .val (.ref r87), .val (.int wc), .val (.int lc), .val (.ref r92), .val (.ref r98), .unset, .unset, .unset] [(.int (1 : Int32))])) (fun _ k => XS.goto X98.here hx rfl (pc0 := 166) (pc' := 170) rfl (hb hby at_166) (by decide) (by decide) k) ?_
              exact J170 _ (Or.inl ⟨rfl, (own_hd_iff hn).mpr (Or.inr (Or.inr (Or.inl ⟨hc142, hc149⟩)))⟩)
            · refine GoW.via (S' := T98.setTop (mkF m 152 #[.val (.int p1), .val (.int p2), .val (.int p3), .val (.int p4), .val (.int n), .val (.int r1), .val (.int r3), .val (.int r5), .val (.int r7), .val (.ref r87), .val (.int wc), .val (.int lc), .val (.ref r92), .val (.ref r98), .unset, .unset, .unset] [])) (fun _ k => XS.icmpNo X98.here hx rfl (hb hby at_149) rfl (feq hc149).1 k) ?_
              refine GoW.via (S' := T98.setTop (mkF m 154 #[.val (.int p1), .val (.int p2), .val (.int p3), .val (.int p4), .val (.int n), .val (.int r1), .val (.int r3), .val (.int r5), .val (.int r7), .val (.ref r87), .val (.int wc), .val (.int lc), .val (.ref r92), .val (.ref r98), .unset, .unset, .unset] [(.int n)])) (fun _ k => XS.iload X98.here hx rfl (hb hby at_152) rfl k) ?_
              refine GoW.via (S' := T98.setTop (mkF m 155 #[.val (.int p1), .val (.int p2), .val (.int p3), .val (.int p4), .val (.int n), .val (.int r1), .val (.int r3), .val (.int r5), .val (.int r7), .val (.ref r87), .val (.int wc), .val (.int lc), .val (.ref r92), .val (.ref r98), .unset, .unset, .unset] [(.int (3 : Int32)), (.int n)])) (fun _ k => XS.iconst X98.here hx rfl (hb hby at_154) k) ?_
              rcases Decidable.em ((3 : Int32) < n) with hc155 | hc155
              · refine GoW.via (S' := T98.setTop (mkF m 158 #[.val (.int p1), .val (.int p2), .val (.int p3), .val (.int p4), .val (.int n), .val (.int r1), .val (.int r3), .val (.int r5), .val (.int r7), .val (.ref r87), .val (.int wc), .val (.int lc), .val (.ref r92), .val (.ref r98), .unset, .unset, .unset] [])) (fun _ k => XS.icmpNo X98.here hx rfl (hb hby at_155) rfl (tlt hc155).2.2.2 k) ?_
                refine GoW.via (S' := T98.setTop (mkF m 160 #[.val (.int p1), .val (.int p2), .val (.int p3), .val (.int p4), .val (.int n), .val (.int r1), .val (.int r3), .val (.int r5), .val (.int r7), .val (.ref r87), .val (.int wc), .val (.int lc), .val (.ref r92), .val (.ref r98), .unset, .unset, .unset] [(.int r7)])) (fun _ k => XS.iload X98.here hx rfl (hb hby at_158) rfl k) ?_
                refine GoW.via (S' := T98.setTop (mkF m 162 #[.val (.int p1), .val (.int p2), .val (.int p3), .val (.int p4), .val (.int n), .val (.int r1), .val (.int r3), .val (.int r5), .val (.int r7), .val (.ref r87), .val (.int wc), .val (.int lc), .val (.ref r92), .val (.ref r98), .unset, .unset, .unset] [(.int (46 : Int32)), (.int r7)])) (fun _ k => XS.bipush X98.here hx rfl (hb hby at_160) k) ?_
                rcases Decidable.em (r7 = (46 : Int32)) with hc162 | hc162
                · refine GoW.via (S' := T98.setTop (mkF m 165 #[.val (.int p1), .val (.int p2), .val (.int p3), .val (.int p4), .val (.int n), .val (.int r1), .val (.int r3), .val (.int r5), .val (.int r7), .val (.ref r87), .val (.int wc), .val (.int lc), .val (.ref r92), .val (.ref r98), .unset, .unset, .unset] [])) (fun _ k => XS.icmpNo X98.here hx rfl (hb hby at_162) rfl (teq hc162).2 k) ?_
                  refine GoW.via (S' := T98.setTop (mkF m 166 #[.val (.int p1), .val (.int p2), .val (.int p3), .val (.int p4), .val (.int n), .val (.int r1), .val (.int r3), .val (.int r5), .val (.int r7), .val (.ref r87), .val (.int wc), .val (.int lc), .val (.ref r92), .val (.ref r98), .unset, .unset, .unset] [(.int (1 : Int32))])) (fun _ k => XS.iconst X98.here hx rfl (hb hby at_165) k) ?_
                  refine GoW.via (S' := T98.setTop (mkF m 170 #[.val (.int p1), .val (.int p2), .val (.int p3), .val (.int p4), .val (.int n), .val (.int r1), .val (.int r3), .val (.int r5), .val (.int r7), .val (.ref r87), .val (.int wc), .val (.int lc), .val (.ref r92), .val (.ref r98), .unset, .unset, .unset] [(.int (1 : Int32))])) (fun _ k => XS.goto X98.here hx rfl (pc0 := 166) (pc' := 170) rfl (hb hby at_166) (by decide) (by decide) k) ?_
                  exact J170 _ (Or.inl ⟨rfl, (own_hd_iff hn).mpr (Or.inr (Or.inr (Or.inr (⟨hc155, hc162⟩))))⟩)
                · refine GoW.via (S' := T98.setTop (mkF m 169 #[.val (.int p1), .val (.int p2), .val (.int p3), .val (.int p4), .val (.int n), .val (.int r1), .val (.int r3), .val (.int r5), .val (.int r7), .val (.ref r87), .val (.int wc), .val (.int lc), .val (.ref r92), .val (.ref r98), .unset, .unset, .unset] [])) (fun _ k => XS.icmpYes X98.here hx rfl (pc0 := 162) (pc' := 169) rfl (hb hby at_162) rfl (feq hc162).2 (by decide) (by decide) k) ?_
                  refine GoW.via (S' := T98.setTop (mkF m 170 #[.val (.int p1), .val (.int p2), .val (.int p3), .val (.int p4), .val (.int n), .val (.int r1), .val (.int r3), .val (.int r5), .val (.int r7), .val (.ref r87), .val (.int wc), .val (.int lc), .val (.ref r92), .val (.ref r98), .unset, .unset, .unset] [(.int (0 : Int32))])) (fun _ k => XS.iconst X98.here hx rfl (hb hby at_169) k) ?_
                  exact J170 _ (Or.inr ⟨rfl, fun q => ((own_hd_iff hn).mp q).elim (fun a => hc116 a.1) (fun q => q.elim (fun a => hc129 a.1) (fun q => q.elim (fun a => hc149 a.2) (fun a => hc162 a.2)))⟩)
              · refine GoW.via (S' := T98.setTop (mkF m 169 #[.val (.int p1), .val (.int p2), .val (.int p3), .val (.int p4), .val (.int n), .val (.int r1), .val (.int r3), .val (.int r5), .val (.int r7), .val (.ref r87), .val (.int wc), .val (.int lc), .val (.ref r92), .val (.ref r98), .unset, .unset, .unset] [])) (fun _ k => XS.icmpYes X98.here hx rfl (pc0 := 155) (pc' := 169) rfl (hb hby at_155) rfl (flt hc155).2.2.2 (by decide) (by decide) k) ?_
                refine GoW.via (S' := T98.setTop (mkF m 170 #[.val (.int p1), .val (.int p2), .val (.int p3), .val (.int p4), .val (.int n), .val (.int r1), .val (.int r3), .val (.int r5), .val (.int r7), .val (.ref r87), .val (.int wc), .val (.int lc), .val (.ref r92), .val (.ref r98), .unset, .unset, .unset] [(.int (0 : Int32))])) (fun _ k => XS.iconst X98.here hx rfl (hb hby at_169) k) ?_
                exact J170 _ (Or.inr ⟨rfl, fun q => ((own_hd_iff hn).mp q).elim (fun a => hc116 a.1) (fun q => q.elim (fun a => hc129 a.1) (fun q => q.elim (fun a => hc149 a.2) (fun a => hc155 a.1)))⟩)
          · refine GoW.via (S' := T98.setTop (mkF m 152 #[.val (.int p1), .val (.int p2), .val (.int p3), .val (.int p4), .val (.int n), .val (.int r1), .val (.int r3), .val (.int r5), .val (.int r7), .val (.ref r87), .val (.int wc), .val (.int lc), .val (.ref r92), .val (.ref r98), .unset, .unset, .unset] [])) (fun _ k => XS.icmpYes X98.here hx rfl (pc0 := 142) (pc' := 152) rfl (hb hby at_142) rfl (flt hc142).2.2.2 (by decide) (by decide) k) ?_
            refine GoW.via (S' := T98.setTop (mkF m 154 #[.val (.int p1), .val (.int p2), .val (.int p3), .val (.int p4), .val (.int n), .val (.int r1), .val (.int r3), .val (.int r5), .val (.int r7), .val (.ref r87), .val (.int wc), .val (.int lc), .val (.ref r92), .val (.ref r98), .unset, .unset, .unset] [(.int n)])) (fun _ k => XS.iload X98.here hx rfl (hb hby at_152) rfl k) ?_
            refine GoW.via (S' := T98.setTop (mkF m 155 #[.val (.int p1), .val (.int p2), .val (.int p3), .val (.int p4), .val (.int n), .val (.int r1), .val (.int r3), .val (.int r5), .val (.int r7), .val (.ref r87), .val (.int wc), .val (.int lc), .val (.ref r92), .val (.ref r98), .unset, .unset, .unset] [(.int (3 : Int32)), (.int n)])) (fun _ k => XS.iconst X98.here hx rfl (hb hby at_154) k) ?_
            rcases Decidable.em ((3 : Int32) < n) with hc155 | hc155
            · refine GoW.via (S' := T98.setTop (mkF m 158 #[.val (.int p1), .val (.int p2), .val (.int p3), .val (.int p4), .val (.int n), .val (.int r1), .val (.int r3), .val (.int r5), .val (.int r7), .val (.ref r87), .val (.int wc), .val (.int lc), .val (.ref r92), .val (.ref r98), .unset, .unset, .unset] [])) (fun _ k => XS.icmpNo X98.here hx rfl (hb hby at_155) rfl (tlt hc155).2.2.2 k) ?_
              refine GoW.via (S' := T98.setTop (mkF m 160 #[.val (.int p1), .val (.int p2), .val (.int p3), .val (.int p4), .val (.int n), .val (.int r1), .val (.int r3), .val (.int r5), .val (.int r7), .val (.ref r87), .val (.int wc), .val (.int lc), .val (.ref r92), .val (.ref r98), .unset, .unset, .unset] [(.int r7)])) (fun _ k => XS.iload X98.here hx rfl (hb hby at_158) rfl k) ?_
              refine GoW.via (S' := T98.setTop (mkF m 162 #[.val (.int p1), .val (.int p2), .val (.int p3), .val (.int p4), .val (.int n), .val (.int r1), .val (.int r3), .val (.int r5), .val (.int r7), .val (.ref r87), .val (.int wc), .val (.int lc), .val (.ref r92), .val (.ref r98), .unset, .unset, .unset] [(.int (46 : Int32)), (.int r7)])) (fun _ k => XS.bipush X98.here hx rfl (hb hby at_160) k) ?_
              rcases Decidable.em (r7 = (46 : Int32)) with hc162 | hc162
              · refine GoW.via (S' := T98.setTop (mkF m 165 #[.val (.int p1), .val (.int p2), .val (.int p3), .val (.int p4), .val (.int n), .val (.int r1), .val (.int r3), .val (.int r5), .val (.int r7), .val (.ref r87), .val (.int wc), .val (.int lc), .val (.ref r92), .val (.ref r98), .unset, .unset, .unset] [])) (fun _ k => XS.icmpNo X98.here hx rfl (hb hby at_162) rfl (teq hc162).2 k) ?_
                refine GoW.via (S' := T98.setTop (mkF m 166 #[.val (.int p1), .val (.int p2), .val (.int p3), .val (.int p4), .val (.int n), .val (.int r1), .val (.int r3), .val (.int r5), .val (.int r7), .val (.ref r87), .val (.int wc), .val (.int lc), .val (.ref r92), .val (.ref r98), .unset, .unset, .unset] [(.int (1 : Int32))])) (fun _ k => XS.iconst X98.here hx rfl (hb hby at_165) k) ?_
                refine GoW.via (S' := T98.setTop (mkF m 170 #[.val (.int p1), .val (.int p2), .val (.int p3), .val (.int p4), .val (.int n), .val (.int r1), .val (.int r3), .val (.int r5), .val (.int r7), .val (.ref r87), .val (.int wc), .val (.int lc), .val (.ref r92), .val (.ref r98), .unset, .unset, .unset] [(.int (1 : Int32))])) (fun _ k => XS.goto X98.here hx rfl (pc0 := 166) (pc' := 170) rfl (hb hby at_166) (by decide) (by decide) k) ?_
                exact J170 _ (Or.inl ⟨rfl, (own_hd_iff hn).mpr (Or.inr (Or.inr (Or.inr (⟨hc155, hc162⟩))))⟩)
              · refine GoW.via (S' := T98.setTop (mkF m 169 #[.val (.int p1), .val (.int p2), .val (.int p3), .val (.int p4), .val (.int n), .val (.int r1), .val (.int r3), .val (.int r5), .val (.int r7), .val (.ref r87), .val (.int wc), .val (.int lc), .val (.ref r92), .val (.ref r98), .unset, .unset, .unset] [])) (fun _ k => XS.icmpYes X98.here hx rfl (pc0 := 162) (pc' := 169) rfl (hb hby at_162) rfl (feq hc162).2 (by decide) (by decide) k) ?_
                refine GoW.via (S' := T98.setTop (mkF m 170 #[.val (.int p1), .val (.int p2), .val (.int p3), .val (.int p4), .val (.int n), .val (.int r1), .val (.int r3), .val (.int r5), .val (.int r7), .val (.ref r87), .val (.int wc), .val (.int lc), .val (.ref r92), .val (.ref r98), .unset, .unset, .unset] [(.int (0 : Int32))])) (fun _ k => XS.iconst X98.here hx rfl (hb hby at_169) k) ?_
                exact J170 _ (Or.inr ⟨rfl, fun q => ((own_hd_iff hn).mp q).elim (fun a => hc116 a.1) (fun q => q.elim (fun a => hc129 a.1) (fun q => q.elim (fun a => hc142 a.1) (fun a => hc162 a.2)))⟩)
            · refine GoW.via (S' := T98.setTop (mkF m 169 #[.val (.int p1), .val (.int p2), .val (.int p3), .val (.int p4), .val (.int n), .val (.int r1), .val (.int r3), .val (.int r5), .val (.int r7), .val (.ref r87), .val (.int wc), .val (.int lc), .val (.ref r92), .val (.ref r98), .unset, .unset, .unset] [])) (fun _ k => XS.icmpYes X98.here hx rfl (pc0 := 155) (pc' := 169) rfl (hb hby at_155) rfl (flt hc155).2.2.2 (by decide) (by decide) k) ?_
              refine GoW.via (S' := T98.setTop (mkF m 170 #[.val (.int p1), .val (.int p2), .val (.int p3), .val (.int p4), .val (.int n), .val (.int r1), .val (.int r3), .val (.int r5), .val (.int r7), .val (.ref r87), .val (.int wc), .val (.int lc), .val (.ref r92), .val (.ref r98), .unset, .unset, .unset] [(.int (0 : Int32))])) (fun _ k => XS.iconst X98.here hx rfl (hb hby at_169) k) ?_
              exact J170 _ (Or.inr ⟨rfl, fun q => ((own_hd_iff hn).mp q).elim (fun a => hc116 a.1) (fun q => q.elim (fun a => hc129 a.1) (fun q => q.elim (fun a => hc142 a.1) (fun a => hc155 a.1)))⟩)
    intro ex hex
    rcases hex with ⟨rfl, hex⟩ | ⟨rfl, hex⟩
    · refine GoW.via (S' := T98.setTop (mkF m 172 #[.val (.int p1), .val (.int p2), .val (.int p3), .val (.int p4), .val (.int n), .val (.int r1), .val (.int r3), .val (.int r5), .val (.int r7), .val (.ref r87), .val (.int wc), .val (.int lc), .val (.ref r92), .val (.ref r98), .val (.int (1 : Int32)), .unset, .unset] [])) (fun _ k => XS.istore X98.here hx rfl (hb hby at_170) rfl (l' := #[.val (.int p1), .val (.int p2), .val (.int p3), .val (.int p4), .val (.int n), .val (.int r1), .val (.int r3), .val (.int r5), .val (.int r7), .val (.ref r87), .val (.int wc), .val (.int lc), .val (.ref r92), .val (.ref r98), .val (.int (1 : Int32)), .unset, .unset]) rfl k) ?_
      obtain ⟨T104, h104, X104, e104, E104, A104, D104, -, st104⟩ := newO X98 hx hZ hown (hw _ (List.mem_of_getElem? (i := 52) rfl)) (hw _ (List.mem_of_getElem? (i := 53) rfl)) (hw _ (List.mem_of_getElem? (i := 54) rfl)) rfl (g := (mkF m 172 #[.val (.int p1), .val (.int p2), .val (.int p3), .val (.int p4), .val (.int n), .val (.int r1), .val (.int r3), .val (.int r5), .val (.int r7), .val (.ref r87), .val (.int wc), .val (.int lc), .val (.ref r92), .val (.ref r98), .val (.int (1 : Int32)), .unset, .unset] [])) rfl (hb hby at_172) (by decide) (by decide)
      obtain ⟨b104, g104⟩ : ∃ z, z = T98.heap.size := ⟨_, rfl⟩
      rw [← g104] at A104 D104 st104
      have ne105 : r87 ≠ b104 := Nat.ne_of_lt (Nat.lt_of_lt_of_le f101.lt (Nat.le_of_eq g104.symm))
      have ne106 : t87 ≠ b104 := Nat.ne_of_lt (Nat.lt_of_lt_of_le f101.lt2 (Nat.le_of_eq g104.symm))
      have g107 : n0 ≤ b104 := Nat.le_trans z102 (Nat.le_of_eq g104.symm)
      have f108 := f100.ext E104
      have f109 := f101.ext E104
      have z110 := Nat.le_trans z102 E104.1
      have hk111 := Nat.le_trans hk103 E104.1
      have F112 : Fld Z h104 b104 "com/example/amendatory/amendatory/ProvisionName" "word" "Ljava/lang/String;" .null := D104 (Or.inr (hw _ (List.mem_of_getElem? (i := 63) rfl))) (ty := (.object "java/lang/String")) (by decide)
      have F113 : Fld Z h104 b104 "com/example/amendatory/amendatory/ProvisionName" "number" "Ljava/lang/String;" .null := D104 (Or.inr (hw _ (List.mem_of_getElem? (i := 65) rfl))) (ty := (.object "java/lang/String")) (by decide)
      have F114 : Fld Z h104 b104 "com/example/amendatory/amendatory/ProvisionName" "paragraph" "Ljava/lang/String;" .null := D104 (Or.inr (hw _ (List.mem_of_getElem? (i := 67) rfl))) (ty := (.object "java/lang/String")) (by decide)
      refine GoW.via (S' := T104.setTop (mkF m 175 #[.val (.int p1), .val (.int p2), .val (.int p3), .val (.int p4), .val (.int n), .val (.int r1), .val (.int r3), .val (.int r5), .val (.int r7), .val (.ref r87), .val (.int wc), .val (.int lc), .val (.ref r92), .val (.ref r98), .val (.int (1 : Int32)), .unset, .unset] [(.ref b104)])) (fun _ k => st104 _ k) ?_
      refine GoW.via (S' := T104.setTop (mkF m 176 #[.val (.int p1), .val (.int p2), .val (.int p3), .val (.int p4), .val (.int n), .val (.int r1), .val (.int r3), .val (.int r5), .val (.int r7), .val (.ref r87), .val (.int wc), .val (.int lc), .val (.ref r92), .val (.ref r98), .val (.int (1 : Int32)), .unset, .unset] [(.ref b104), (.ref b104)])) (fun _ k => XS.dup X104.here hx rfl (hb hby at_175) rfl rfl k) ?_
      refine GoW.via (S' := T104.setTop (mkF m 178 #[.val (.int p1), .val (.int p2), .val (.int p3), .val (.int p4), .val (.int n), .val (.int r1), .val (.int r3), .val (.int r5), .val (.int r7), .val (.ref r87), .val (.int wc), .val (.int lc), .val (.ref r92), .val (.ref r98), .val (.int (1 : Int32)), .unset, .unset] [(.ref r92), (.ref b104), (.ref b104)])) (fun _ k => XS.aload X104.here hx rfl (hb hby at_176) rfl rfl k) ?_
      refine GoW.via (S' := T104.setTop (mkF m 180 #[.val (.int p1), .val (.int p2), .val (.int p3), .val (.int p4), .val (.int n), .val (.int r1), .val (.int r3), .val (.int r5), .val (.int r7), .val (.ref r87), .val (.int wc), .val (.int lc), .val (.ref r92), .val (.ref r98), .val (.int (1 : Int32)), .unset, .unset] [(.ref r87), (.ref r92), (.ref b104), (.ref b104)])) (fun _ k => XS.aload X104.here hx rfl (hb hby at_178) rfl rfl k) ?_
      obtain ⟨_, _, ⟨T115, L115, k115, n115⟩, -, X115, ⟨Lc115, hQ115, l115, y115, z115⟩, st115⟩ := X104.specialBack hx (y := (⟨"com/example/amendatory/amendatory/ProvisionName", "<init>", "(Ljava/lang/String;Ljava/lang/String;)V"⟩ : MethodName)) rfl hown (mvT hZ (hw _ (List.mem_of_getElem? (i := 55) rfl))) (mvT hZ (hw _ (List.mem_of_getElem? (i := 56) rfl))) (mvT hZ (hw _ (List.mem_of_getElem? (i := 57) rfl))) (by decide) (backOf (W := 1) (rm13 l Z a0 hw [] b104 r92 r87 h104 n0 z110 A104 F112 F113 F114 g107) hZ (hw _ (List.mem_of_getElem? (i := 57) rfl)) (hw _ (List.mem_of_getElem? (i := 54) rfl)) (by decide) (by decide)) (g := (mkF m 180 #[.val (.int p1), .val (.int p2), .val (.int p3), .val (.int p4), .val (.int n), .val (.int r1), .val (.int r3), .val (.int r5), .val (.int r7), .val (.ref r87), .val (.int wc), .val (.int lc), .val (.ref r92), .val (.ref r98), .val (.int (1 : Int32)), .unset, .unset] [(.ref r87), (.ref r92), (.ref b104), (.ref b104)])) rfl (by rw [hml]; rfl) (Steps.refl _) (a := b104) (argsL := [(.ref r92), (.ref r87)]) (rest := [(.ref b104)]) (lenOf pd_15 rfl) rfl (by show 2 * 0 + _ ≤ _; exact Nat.le_of_eq rfl) (hb hby at_180) (fun _ _ => ⟨rfl, e104, (by decide : 8 + 0 ≤ _), (by decide : 25 + 0 ≤ _)⟩)
      dsimp only [Pt.U, Pt.locs, Pt.cells, Pt.slots] at X115 l115 y115 z115 st115 hQ115
      subst l115 y115 z115
      obtain ⟨rfl, N115q, K115, Fw115, Fn115⟩ := hQ115
      have N116 := Fr.app N99 N115q
      have f117 := f108.keep K115 (allS g107 all0)
      have f118 := f109.keep K115 (ninS ne105 nin0) (ninS ne106 nin0)
      have f119 := A104.keep K115
      have z120 := Nat.le_trans z110 K115.1
      have hk121 := Nat.le_trans hk111 K115.1
      refine GoW.via (S' := T115.setTop (mkF m 183 #[.val (.int p1), .val (.int p2), .val (.int p3), .val (.int p4), .val (.int n), .val (.int r1), .val (.int r3), .val (.int r5), .val (.int r7), .val (.ref r87), .val (.int wc), .val (.int lc), .val (.ref r92), .val (.ref r98), .val (.int (1 : Int32)), .unset, .unset] [(.ref b104)])) (fun _ k => st115.trans k) ?_
      refine GoW.via (S' := T115.setTop (mkF m 185 #[.val (.int p1), .val (.int p2), .val (.int p3), .val (.int p4), .val (.int n), .val (.int r1), .val (.int r3), .val (.int r5), .val (.int r7), .val (.ref r87), .val (.int wc), .val (.int lc), .val (.ref r92), .val (.ref r98), .val (.int (1 : Int32)), .val (.ref b104), .unset] [])) (fun _ k => XS.astore X115.here hx rfl (hb hby at_183) rfl rfl (l' := #[.val (.int p1), .val (.int p2), .val (.int p3), .val (.int p4), .val (.int n), .val (.int r1), .val (.int r3), .val (.int r5), .val (.int r7), .val (.ref r87), .val (.int wc), .val (.int lc), .val (.ref r92), .val (.ref r98), .val (.int (1 : Int32)), .val (.ref b104), .unset]) rfl k) ?_
      refine GoW.via (S' := T115.setTop (mkF m 187 #[.val (.int p1), .val (.int p2), .val (.int p3), .val (.int p4), .val (.int n), .val (.int r1), .val (.int r3), .val (.int r5), .val (.int r7), .val (.ref r87), .val (.int wc), .val (.int lc), .val (.ref r92), .val (.ref r98), .val (.int (1 : Int32)), .val (.ref b104), .unset] [(.ref b104)])) (fun _ k => XS.aload X115.here hx rfl (hb hby at_185) rfl rfl k) ?_
      refine GoW.via (S' := T115.setTop (mkF m 189 #[.val (.int p1), .val (.int p2), .val (.int p3), .val (.int p4), .val (.int n), .val (.int r1), .val (.int r3), .val (.int r5), .val (.int r7), .val (.ref r87), .val (.int wc), .val (.int lc), .val (.ref r92), .val (.ref r98), .val (.int (1 : Int32)), .val (.ref b104), .unset] [(.ref r98), (.ref b104)])) (fun _ k => XS.aload X115.here hx rfl (hb hby at_187) rfl rfl k) ?_
      obtain ⟨cq122, kq122, q122a, q122b, q122c⟩ := isOf hZ rfl f119
      obtain ⟨_, _, ⟨T122, L122, k122, n122⟩, -, X122, ⟨Lc122, hQ122, l122, y122, z122⟩, st122⟩ := X115.virtualBack hx (y := (⟨"com/example/amendatory/amendatory/ProvisionName", "paragraph", "(Ljava/lang/String;)Lcom/example/amendatory/amendatory/ProvisionName;"⟩ : MethodName)) (z := (⟨"com/example/amendatory/amendatory/ProvisionName", "paragraph", "(Ljava/lang/String;)Lcom/example/amendatory/amendatory/ProvisionName;"⟩ : MethodName)) hown (mvT hZ (hw _ (List.mem_of_getElem? (i := 68) rfl))) (mvT hZ (hw _ (List.mem_of_getElem? (i := 69) rfl))) (notFace_of_selects (args := #[]) (mvT hZ (hw _ (List.mem_of_getElem? (i := 71) rfl)))) (mvT hZ (hw _ (List.mem_of_getElem? (i := 71) rfl))) (mvT hZ (hw _ (List.mem_of_getElem? (i := 70) rfl))) (by decide) (backOf (W := 0) (rm15 l Z a0 hw [] b104 r98 r92 r87 T115.heap n0 z120 Fw115 Fn115) hZ (hw _ (List.mem_of_getElem? (i := 72) rfl)) (hw _ (List.mem_of_getElem? (i := 54) rfl)) (by decide) (by decide)) q122a q122c (g := (mkF m 189 #[.val (.int p1), .val (.int p2), .val (.int p3), .val (.int p4), .val (.int n), .val (.int r1), .val (.int r3), .val (.int r5), .val (.int r7), .val (.ref r87), .val (.int wc), .val (.int lc), .val (.ref r92), .val (.ref r98), .val (.int (1 : Int32)), .val (.ref b104), .unset] [(.ref r98), (.ref b104)])) rfl (by rw [hml]; rfl) (Steps.refl _) (argsL := [(.ref r98)]) (rest := []) (lenOf pd_16 rfl) rfl (by show 2 * 0 + _ ≤ _; exact Nat.le_of_eq rfl) (hb hby at_189) (fun _ _ => ⟨rfl, rfl, (by decide : 8 + 1 ≤ _), (by decide : 25 + 3 ≤ _)⟩)
      dsimp only [Pt.U, Pt.locs, Pt.cells, Pt.slots] at X122 l122 y122 z122 st122 hQ122
      subst l122 y122 z122
      obtain ⟨r122, rfl, N122q, K122, E122, F122⟩ := hQ122
      have N123 := Fr.app N116 N122q
      have f124 := f117.keep K122 all0
      have f125 := f118.keep K122 nin0 nin0
      have f126 := f119.keep K122
      have f127 := Fw115.keep K122 nin0
      have f128 := Fn115.keep K122 nin0
      have z129 := Nat.le_trans z120 K122.1
      have hk130 := Nat.le_trans hk121 K122.1
      refine GoW.via (S' := T122.setTop (mkF m 192 #[.val (.int p1), .val (.int p2), .val (.int p3), .val (.int p4), .val (.int n), .val (.int r1), .val (.int r3), .val (.int r5), .val (.int r7), .val (.ref r87), .val (.int wc), .val (.int lc), .val (.ref r92), .val (.ref r98), .val (.int (1 : Int32)), .val (.ref b104), .unset] [(.ref r122)])) (fun _ k => st122.trans k) ?_
      refine GoW.via (S' := T122.setTop (mkF m 194 #[.val (.int p1), .val (.int p2), .val (.int p3), .val (.int p4), .val (.int n), .val (.int r1), .val (.int r3), .val (.int r5), .val (.int r7), .val (.ref r87), .val (.int wc), .val (.int lc), .val (.ref r92), .val (.ref r98), .val (.int (1 : Int32)), .val (.ref b104), .val (.ref r122)] [])) (fun _ k => XS.astore X122.here hx rfl (hb hby at_192) rfl rfl (l' := #[.val (.int p1), .val (.int p2), .val (.int p3), .val (.int p4), .val (.int n), .val (.int r1), .val (.int r3), .val (.int r5), .val (.int r7), .val (.ref r87), .val (.int wc), .val (.int lc), .val (.ref r92), .val (.ref r98), .val (.int (1 : Int32)), .val (.ref b104), .val (.ref r122)]) rfl k) ?_
      refine GoW.via (S' := T122.setTop (mkF m 196 #[.val (.int p1), .val (.int p2), .val (.int p3), .val (.int p4), .val (.int n), .val (.int r1), .val (.int r3), .val (.int r5), .val (.int r7), .val (.ref r87), .val (.int wc), .val (.int lc), .val (.ref r92), .val (.ref r98), .val (.int (1 : Int32)), .val (.ref b104), .val (.ref r122)] [(.ref b104)])) (fun _ k => XS.aload X122.here hx rfl (hb hby at_194) rfl rfl k) ?_
      obtain ⟨cq131, kq131, q131a, q131b, q131c⟩ := isOf hZ rfl f126
      obtain ⟨_, _, ⟨T131, L131, k131, n131⟩, -, X131, ⟨Lc131, hQ131, l131, y131, z131⟩, st131⟩ := X122.virtualBack hx (y := (⟨"com/example/amendatory/amendatory/ProvisionName", "isSection", "()Z"⟩ : MethodName)) (z := (⟨"com/example/amendatory/amendatory/ProvisionName", "isSection", "()Z"⟩ : MethodName)) hown (mvT hZ (hw _ (List.mem_of_getElem? (i := 74) rfl))) (mvT hZ (hw _ (List.mem_of_getElem? (i := 75) rfl))) (notFace_of_selects (args := #[]) (mvT hZ (hw _ (List.mem_of_getElem? (i := 77) rfl)))) (mvT hZ (hw _ (List.mem_of_getElem? (i := 77) rfl))) (mvT hZ (hw _ (List.mem_of_getElem? (i := 76) rfl))) (by decide) (backOf (W := 0) (rm16 l Z a0 hw [] b104 r87 G1 t87 (own_cs n r1 r3 r5 r7) T122.heap n0 z129 f128 f124 O2 P5 f125) hZ (hw _ (List.mem_of_getElem? (i := 78) rfl)) (hw _ (List.mem_of_getElem? (i := 54) rfl)) (by decide) (by decide)) q131a q131c (g := (mkF m 196 #[.val (.int p1), .val (.int p2), .val (.int p3), .val (.int p4), .val (.int n), .val (.int r1), .val (.int r3), .val (.int r5), .val (.int r7), .val (.ref r87), .val (.int wc), .val (.int lc), .val (.ref r92), .val (.ref r98), .val (.int (1 : Int32)), .val (.ref b104), .val (.ref r122)] [(.ref b104)])) rfl (by rw [hml]; rfl) (Steps.refl _) (argsL := []) (rest := []) (lenOf pd_9 rfl) rfl (by show 2 * 0 + _ ≤ _; exact Nat.le_of_eq rfl) (hb hby at_196) (fun _ _ => ⟨rfl, rfl, (by decide : 9 + 0 ≤ _), (by decide : 28 + 0 ≤ _)⟩)
      dsimp only [Pt.U, Pt.locs, Pt.cells, Pt.slots] at X131 l131 y131 z131 st131 hQ131
      subst l131 y131 z131
      obtain ⟨r131, rfl, N131q, e131, hr131⟩ := hQ131
      have N132 := Fr.app N123 N131q
      refine GoW.via (S' := T131.setTop (mkF m 199 #[.val (.int p1), .val (.int p2), .val (.int p3), .val (.int p4), .val (.int n), .val (.int r1), .val (.int r3), .val (.int r5), .val (.int r7), .val (.ref r87), .val (.int wc), .val (.int lc), .val (.ref r92), .val (.ref r98), .val (.int (1 : Int32)), .val (.ref b104), .val (.ref r122)] [(.int r131)])) (fun _ k => st131.trans k) ?_
      rcases hr131 with ⟨rfl, hB⟩ | ⟨rfl, hB⟩
      · exact absurd hex hB
      · refine GoW.via (S' := T131.setTop (mkF m 201 #[.val (.int p1), .val (.int p2), .val (.int p3), .val (.int p4), .val (.int n), .val (.int r1), .val (.int r3), .val (.int r5), .val (.int r7), .val (.ref r87), .val (.int wc), .val (.int lc), .val (.ref r92), .val (.ref r98), .val (.int (1 : Int32)), .val (.ref b104), .val (.ref r122)] [(.int (1 : Int32)), (.int (0 : Int32))])) (fun _ k => XS.iload X131.here hx rfl (hb hby at_199) rfl k) ?_
        refine GoW.via (S' := T131.setTop (mkF m 208 #[.val (.int p1), .val (.int p2), .val (.int p3), .val (.int p4), .val (.int n), .val (.int r1), .val (.int r3), .val (.int r5), .val (.int r7), .val (.ref r87), .val (.int wc), .val (.int lc), .val (.ref r92), .val (.ref r98), .val (.int (1 : Int32)), .val (.ref b104), .val (.ref r122)] [(.int (0 : Int32))])) (fun _ k => XS.ifYes X131.here hx rfl (pc0 := 201) (pc' := 208) rfl (hb hby at_201) rfl ((if0 _ _).trans (feq (by decide)).2) (by decide) (by decide) k) ?_
        refine GoW.via (S' := T131.setTop (mkF m 209 #[.val (.int p1), .val (.int p2), .val (.int p3), .val (.int p4), .val (.int n), .val (.int r1), .val (.int r3), .val (.int r5), .val (.int r7), .val (.ref r87), .val (.int wc), .val (.int lc), .val (.ref r92), .val (.ref r98), .val (.int (1 : Int32)), .val (.ref b104), .val (.ref r122)] [(.int (0 : Int32)), (.int (0 : Int32))])) (fun _ k => XS.iconst X131.here hx rfl (hb hby at_208) k) ?_
        refine GoW.via (S' := T131.setTop (mkF m 212 #[.val (.int p1), .val (.int p2), .val (.int p3), .val (.int p4), .val (.int n), .val (.int r1), .val (.int r3), .val (.int r5), .val (.int r7), .val (.ref r87), .val (.int wc), .val (.int lc), .val (.ref r92), .val (.ref r98), .val (.int (1 : Int32)), .val (.ref b104), .val (.ref r122)] [])) (fun _ k => XS.icmpNo X131.here hx rfl (hb hby at_209) rfl (teq (by decide)).2 k) ?_
        refine GoW.via (S' := T131.setTop (mkF m 214 #[.val (.int p1), .val (.int p2), .val (.int p3), .val (.int p4), .val (.int n), .val (.int r1), .val (.int r3), .val (.int r5), .val (.int r7), .val (.ref r87), .val (.int wc), .val (.int lc), .val (.ref r92), .val (.ref r98), .val (.int (1 : Int32)), .val (.ref b104), .val (.ref r122)] [(.ref r122)])) (fun _ k => XS.aload X131.here hx rfl (hb hby at_212) rfl rfl k) ?_
        obtain ⟨cq133, kq133, q133a, q133b, q133c⟩ := isOf hZ e131 E122
        obtain ⟨_, _, ⟨T133, L133, k133, n133⟩, -, X133, ⟨Lc133, hQ133, l133, y133, z133⟩, st133⟩ := X131.virtualBack hx (y := (⟨"com/example/amendatory/amendatory/ProvisionName", "isSection", "()Z"⟩ : MethodName)) (z := (⟨"com/example/amendatory/amendatory/ProvisionName", "isSection", "()Z"⟩ : MethodName)) hown (mvT hZ (hw _ (List.mem_of_getElem? (i := 74) rfl))) (mvT hZ (hw _ (List.mem_of_getElem? (i := 75) rfl))) (notFace_of_selects (args := #[]) (mvT hZ (hw _ (List.mem_of_getElem? (i := 77) rfl)))) (mvT hZ (hw _ (List.mem_of_getElem? (i := 77) rfl))) (mvT hZ (hw _ (List.mem_of_getElem? (i := 76) rfl))) (by decide) (backOf (W := 0) (rm16 l Z a0 hw [] r122 r87 G1 t87 (own_cs n r1 r3 r5 r7) T122.heap n0 z129 F122 f124 O2 P5 f125) hZ (hw _ (List.mem_of_getElem? (i := 78) rfl)) (hw _ (List.mem_of_getElem? (i := 54) rfl)) (by decide) (by decide)) q133a q133c (g := (mkF m 214 #[.val (.int p1), .val (.int p2), .val (.int p3), .val (.int p4), .val (.int n), .val (.int r1), .val (.int r3), .val (.int r5), .val (.int r7), .val (.ref r87), .val (.int wc), .val (.int lc), .val (.ref r92), .val (.ref r98), .val (.int (1 : Int32)), .val (.ref b104), .val (.ref r122)] [(.ref r122)])) rfl (by rw [hml]; rfl) (Steps.refl _) (argsL := []) (rest := []) (lenOf pd_9 rfl) rfl (by show 2 * 0 + _ ≤ _; exact Nat.le_of_eq rfl) (hb hby at_214) (fun _ _ => ⟨rfl, e131, (by decide : 9 + 0 ≤ _), (by decide : 28 + 0 ≤ _)⟩)
        dsimp only [Pt.U, Pt.locs, Pt.cells, Pt.slots] at X133 l133 y133 z133 st133 hQ133
        subst l133 y133 z133
        obtain ⟨r133, rfl, N133q, e133, hr133⟩ := hQ133
        have N134 := Fr.app N132 N133q
        refine GoW.via (S' := T133.setTop (mkF m 217 #[.val (.int p1), .val (.int p2), .val (.int p3), .val (.int p4), .val (.int n), .val (.int r1), .val (.int r3), .val (.int r5), .val (.int r7), .val (.ref r87), .val (.int wc), .val (.int lc), .val (.ref r92), .val (.ref r98), .val (.int (1 : Int32)), .val (.ref b104), .val (.ref r122)] [(.int r133)])) (fun _ k => st133.trans k) ?_
        rcases hr133 with ⟨rfl, hB⟩ | ⟨rfl, hB⟩
        · exact absurd hex hB
        · refine GoW.via (S' := T133.setTop (mkF m 219 #[.val (.int p1), .val (.int p2), .val (.int p3), .val (.int p4), .val (.int n), .val (.int r1), .val (.int r3), .val (.int r5), .val (.int r7), .val (.ref r87), .val (.int wc), .val (.int lc), .val (.ref r92), .val (.ref r98), .val (.int (1 : Int32)), .val (.ref b104), .val (.ref r122)] [(.int (1 : Int32)), (.int (0 : Int32))])) (fun _ k => XS.iload X133.here hx rfl (hb hby at_217) rfl k) ?_
          refine GoW.via (S' := T133.setTop (mkF m 226 #[.val (.int p1), .val (.int p2), .val (.int p3), .val (.int p4), .val (.int n), .val (.int r1), .val (.int r3), .val (.int r5), .val (.int r7), .val (.ref r87), .val (.int wc), .val (.int lc), .val (.ref r92), .val (.ref r98), .val (.int (1 : Int32)), .val (.ref b104), .val (.ref r122)] [(.int (0 : Int32))])) (fun _ k => XS.ifYes X133.here hx rfl (pc0 := 219) (pc' := 226) rfl (hb hby at_219) rfl ((if0 _ _).trans (feq (by decide)).2) (by decide) (by decide) k) ?_
          refine GoW.via (S' := T133.setTop (mkF m 227 #[.val (.int p1), .val (.int p2), .val (.int p3), .val (.int p4), .val (.int n), .val (.int r1), .val (.int r3), .val (.int r5), .val (.int r7), .val (.ref r87), .val (.int wc), .val (.int lc), .val (.ref r92), .val (.ref r98), .val (.int (1 : Int32)), .val (.ref b104), .val (.ref r122)] [(.int (0 : Int32)), (.int (0 : Int32))])) (fun _ k => XS.iconst X133.here hx rfl (hb hby at_226) k) ?_
          refine GoW.via (S' := T133.setTop (mkF m 230 #[.val (.int p1), .val (.int p2), .val (.int p3), .val (.int p4), .val (.int n), .val (.int r1), .val (.int r3), .val (.int r5), .val (.int r7), .val (.ref r87), .val (.int wc), .val (.int lc), .val (.ref r92), .val (.ref r98), .val (.int (1 : Int32)), .val (.ref b104), .val (.ref r122)] [])) (fun _ k => XS.icmpNo X133.here hx rfl (hb hby at_227) rfl (teq (by decide)).2 k) ?_
          refine GoW.via (S' := T133.setTop (mkF m 231 #[.val (.int p1), .val (.int p2), .val (.int p3), .val (.int p4), .val (.int n), .val (.int r1), .val (.int r3), .val (.int r5), .val (.int r7), .val (.ref r87), .val (.int wc), .val (.int lc), .val (.ref r92), .val (.ref r98), .val (.int (1 : Int32)), .val (.ref b104), .val (.ref r122)] [(.int (1 : Int32))])) (fun _ k => XS.iconst X133.here hx rfl (hb hby at_230) k) ?_
          refine GoW.via (S' := T133.setTop (mkF m 235 #[.val (.int p1), .val (.int p2), .val (.int p3), .val (.int p4), .val (.int n), .val (.int r1), .val (.int r3), .val (.int r5), .val (.int r7), .val (.ref r87), .val (.int wc), .val (.int lc), .val (.ref r92), .val (.ref r98), .val (.int (1 : Int32)), .val (.ref b104), .val (.ref r122)] [(.int (1 : Int32))])) (fun _ k => XS.goto X133.here hx rfl (pc0 := 231) (pc' := 235) rfl (hb hby at_231) (by decide) (by decide) k) ?_
          exact GoW.retB X133 hx (BodyLoose.notSynchronized Bd) hS0 (by rw [e133]; exact hk130) Bd.returns (hb hby at_235) rfl (by rw [e133]; exact ⟨rfl, N134⟩) (by decide) (by decide)
    · refine GoW.via (S' := T98.setTop (mkF m 172 #[.val (.int p1), .val (.int p2), .val (.int p3), .val (.int p4), .val (.int n), .val (.int r1), .val (.int r3), .val (.int r5), .val (.int r7), .val (.ref r87), .val (.int wc), .val (.int lc), .val (.ref r92), .val (.ref r98), .val (.int (0 : Int32)), .unset, .unset] [])) (fun _ k => XS.istore X98.here hx rfl (hb hby at_170) rfl (l' := #[.val (.int p1), .val (.int p2), .val (.int p3), .val (.int p4), .val (.int n), .val (.int r1), .val (.int r3), .val (.int r5), .val (.int r7), .val (.ref r87), .val (.int wc), .val (.int lc), .val (.ref r92), .val (.ref r98), .val (.int (0 : Int32)), .unset, .unset]) rfl k) ?_
      obtain ⟨T135, h135, X135, e135, E135, A135, D135, -, st135⟩ := newO X98 hx hZ hown (hw _ (List.mem_of_getElem? (i := 52) rfl)) (hw _ (List.mem_of_getElem? (i := 53) rfl)) (hw _ (List.mem_of_getElem? (i := 54) rfl)) rfl (g := (mkF m 172 #[.val (.int p1), .val (.int p2), .val (.int p3), .val (.int p4), .val (.int n), .val (.int r1), .val (.int r3), .val (.int r5), .val (.int r7), .val (.ref r87), .val (.int wc), .val (.int lc), .val (.ref r92), .val (.ref r98), .val (.int (0 : Int32)), .unset, .unset] [])) rfl (hb hby at_172) (by decide) (by decide)
      obtain ⟨b135, g135⟩ : ∃ z, z = T98.heap.size := ⟨_, rfl⟩
      rw [← g135] at A135 D135 st135
      have ne136 : r87 ≠ b135 := Nat.ne_of_lt (Nat.lt_of_lt_of_le f101.lt (Nat.le_of_eq g135.symm))
      have ne137 : t87 ≠ b135 := Nat.ne_of_lt (Nat.lt_of_lt_of_le f101.lt2 (Nat.le_of_eq g135.symm))
      have g138 : n0 ≤ b135 := Nat.le_trans z102 (Nat.le_of_eq g135.symm)
      have f139 := f100.ext E135
      have f140 := f101.ext E135
      have z141 := Nat.le_trans z102 E135.1
      have hk142 := Nat.le_trans hk103 E135.1
      have F143 : Fld Z h135 b135 "com/example/amendatory/amendatory/ProvisionName" "word" "Ljava/lang/String;" .null := D135 (Or.inr (hw _ (List.mem_of_getElem? (i := 63) rfl))) (ty := (.object "java/lang/String")) (by decide)
      have F144 : Fld Z h135 b135 "com/example/amendatory/amendatory/ProvisionName" "number" "Ljava/lang/String;" .null := D135 (Or.inr (hw _ (List.mem_of_getElem? (i := 65) rfl))) (ty := (.object "java/lang/String")) (by decide)
      have F145 : Fld Z h135 b135 "com/example/amendatory/amendatory/ProvisionName" "paragraph" "Ljava/lang/String;" .null := D135 (Or.inr (hw _ (List.mem_of_getElem? (i := 67) rfl))) (ty := (.object "java/lang/String")) (by decide)
      refine GoW.via (S' := T135.setTop (mkF m 175 #[.val (.int p1), .val (.int p2), .val (.int p3), .val (.int p4), .val (.int n), .val (.int r1), .val (.int r3), .val (.int r5), .val (.int r7), .val (.ref r87), .val (.int wc), .val (.int lc), .val (.ref r92), .val (.ref r98), .val (.int (0 : Int32)), .unset, .unset] [(.ref b135)])) (fun _ k => st135 _ k) ?_
      refine GoW.via (S' := T135.setTop (mkF m 176 #[.val (.int p1), .val (.int p2), .val (.int p3), .val (.int p4), .val (.int n), .val (.int r1), .val (.int r3), .val (.int r5), .val (.int r7), .val (.ref r87), .val (.int wc), .val (.int lc), .val (.ref r92), .val (.ref r98), .val (.int (0 : Int32)), .unset, .unset] [(.ref b135), (.ref b135)])) (fun _ k => XS.dup X135.here hx rfl (hb hby at_175) rfl rfl k) ?_
      refine GoW.via (S' := T135.setTop (mkF m 178 #[.val (.int p1), .val (.int p2), .val (.int p3), .val (.int p4), .val (.int n), .val (.int r1), .val (.int r3), .val (.int r5), .val (.int r7), .val (.ref r87), .val (.int wc), .val (.int lc), .val (.ref r92), .val (.ref r98), .val (.int (0 : Int32)), .unset, .unset] [(.ref r92), (.ref b135), (.ref b135)])) (fun _ k => XS.aload X135.here hx rfl (hb hby at_176) rfl rfl k) ?_
      refine GoW.via (S' := T135.setTop (mkF m 180 #[.val (.int p1), .val (.int p2), .val (.int p3), .val (.int p4), .val (.int n), .val (.int r1), .val (.int r3), .val (.int r5), .val (.int r7), .val (.ref r87), .val (.int wc), .val (.int lc), .val (.ref r92), .val (.ref r98), .val (.int (0 : Int32)), .unset, .unset] [(.ref r87), (.ref r92), (.ref b135), (.ref b135)])) (fun _ k => XS.aload X135.here hx rfl (hb hby at_178) rfl rfl k) ?_
      obtain ⟨_, _, ⟨T146, L146, k146, n146⟩, -, X146, ⟨Lc146, hQ146, l146, y146, z146⟩, st146⟩ := X135.specialBack hx (y := (⟨"com/example/amendatory/amendatory/ProvisionName", "<init>", "(Ljava/lang/String;Ljava/lang/String;)V"⟩ : MethodName)) rfl hown (mvT hZ (hw _ (List.mem_of_getElem? (i := 55) rfl))) (mvT hZ (hw _ (List.mem_of_getElem? (i := 56) rfl))) (mvT hZ (hw _ (List.mem_of_getElem? (i := 57) rfl))) (by decide) (backOf (W := 1) (rm13 l Z a0 hw [] b135 r92 r87 h135 n0 z141 A135 F143 F144 F145 g138) hZ (hw _ (List.mem_of_getElem? (i := 57) rfl)) (hw _ (List.mem_of_getElem? (i := 54) rfl)) (by decide) (by decide)) (g := (mkF m 180 #[.val (.int p1), .val (.int p2), .val (.int p3), .val (.int p4), .val (.int n), .val (.int r1), .val (.int r3), .val (.int r5), .val (.int r7), .val (.ref r87), .val (.int wc), .val (.int lc), .val (.ref r92), .val (.ref r98), .val (.int (0 : Int32)), .unset, .unset] [(.ref r87), (.ref r92), (.ref b135), (.ref b135)])) rfl (by rw [hml]; rfl) (Steps.refl _) (a := b135) (argsL := [(.ref r92), (.ref r87)]) (rest := [(.ref b135)]) (lenOf pd_15 rfl) rfl (by show 2 * 0 + _ ≤ _; exact Nat.le_of_eq rfl) (hb hby at_180) (fun _ _ => ⟨rfl, e135, (by decide : 8 + 0 ≤ _), (by decide : 25 + 0 ≤ _)⟩)
      dsimp only [Pt.U, Pt.locs, Pt.cells, Pt.slots] at X146 l146 y146 z146 st146 hQ146
      subst l146 y146 z146
      obtain ⟨rfl, N146q, K146, Fw146, Fn146⟩ := hQ146
      have N147 := Fr.app N99 N146q
      have f148 := f139.keep K146 (allS g138 all0)
      have f149 := f140.keep K146 (ninS ne136 nin0) (ninS ne137 nin0)
      have f150 := A135.keep K146
      have z151 := Nat.le_trans z141 K146.1
      have hk152 := Nat.le_trans hk142 K146.1
      refine GoW.via (S' := T146.setTop (mkF m 183 #[.val (.int p1), .val (.int p2), .val (.int p3), .val (.int p4), .val (.int n), .val (.int r1), .val (.int r3), .val (.int r5), .val (.int r7), .val (.ref r87), .val (.int wc), .val (.int lc), .val (.ref r92), .val (.ref r98), .val (.int (0 : Int32)), .unset, .unset] [(.ref b135)])) (fun _ k => st146.trans k) ?_
      refine GoW.via (S' := T146.setTop (mkF m 185 #[.val (.int p1), .val (.int p2), .val (.int p3), .val (.int p4), .val (.int n), .val (.int r1), .val (.int r3), .val (.int r5), .val (.int r7), .val (.ref r87), .val (.int wc), .val (.int lc), .val (.ref r92), .val (.ref r98), .val (.int (0 : Int32)), .val (.ref b135), .unset] [])) (fun _ k => XS.astore X146.here hx rfl (hb hby at_183) rfl rfl (l' := #[.val (.int p1), .val (.int p2), .val (.int p3), .val (.int p4), .val (.int n), .val (.int r1), .val (.int r3), .val (.int r5), .val (.int r7), .val (.ref r87), .val (.int wc), .val (.int lc), .val (.ref r92), .val (.ref r98), .val (.int (0 : Int32)), .val (.ref b135), .unset]) rfl k) ?_
      refine GoW.via (S' := T146.setTop (mkF m 187 #[.val (.int p1), .val (.int p2), .val (.int p3), .val (.int p4), .val (.int n), .val (.int r1), .val (.int r3), .val (.int r5), .val (.int r7), .val (.ref r87), .val (.int wc), .val (.int lc), .val (.ref r92), .val (.ref r98), .val (.int (0 : Int32)), .val (.ref b135), .unset] [(.ref b135)])) (fun _ k => XS.aload X146.here hx rfl (hb hby at_185) rfl rfl k) ?_
      refine GoW.via (S' := T146.setTop (mkF m 189 #[.val (.int p1), .val (.int p2), .val (.int p3), .val (.int p4), .val (.int n), .val (.int r1), .val (.int r3), .val (.int r5), .val (.int r7), .val (.ref r87), .val (.int wc), .val (.int lc), .val (.ref r92), .val (.ref r98), .val (.int (0 : Int32)), .val (.ref b135), .unset] [(.ref r98), (.ref b135)])) (fun _ k => XS.aload X146.here hx rfl (hb hby at_187) rfl rfl k) ?_
      obtain ⟨cq153, kq153, q153a, q153b, q153c⟩ := isOf hZ rfl f150
      obtain ⟨_, _, ⟨T153, L153, k153, n153⟩, -, X153, ⟨Lc153, hQ153, l153, y153, z153⟩, st153⟩ := X146.virtualBack hx (y := (⟨"com/example/amendatory/amendatory/ProvisionName", "paragraph", "(Ljava/lang/String;)Lcom/example/amendatory/amendatory/ProvisionName;"⟩ : MethodName)) (z := (⟨"com/example/amendatory/amendatory/ProvisionName", "paragraph", "(Ljava/lang/String;)Lcom/example/amendatory/amendatory/ProvisionName;"⟩ : MethodName)) hown (mvT hZ (hw _ (List.mem_of_getElem? (i := 68) rfl))) (mvT hZ (hw _ (List.mem_of_getElem? (i := 69) rfl))) (notFace_of_selects (args := #[]) (mvT hZ (hw _ (List.mem_of_getElem? (i := 71) rfl)))) (mvT hZ (hw _ (List.mem_of_getElem? (i := 71) rfl))) (mvT hZ (hw _ (List.mem_of_getElem? (i := 70) rfl))) (by decide) (backOf (W := 0) (rm15 l Z a0 hw [] b135 r98 r92 r87 T146.heap n0 z151 Fw146 Fn146) hZ (hw _ (List.mem_of_getElem? (i := 72) rfl)) (hw _ (List.mem_of_getElem? (i := 54) rfl)) (by decide) (by decide)) q153a q153c (g := (mkF m 189 #[.val (.int p1), .val (.int p2), .val (.int p3), .val (.int p4), .val (.int n), .val (.int r1), .val (.int r3), .val (.int r5), .val (.int r7), .val (.ref r87), .val (.int wc), .val (.int lc), .val (.ref r92), .val (.ref r98), .val (.int (0 : Int32)), .val (.ref b135), .unset] [(.ref r98), (.ref b135)])) rfl (by rw [hml]; rfl) (Steps.refl _) (argsL := [(.ref r98)]) (rest := []) (lenOf pd_16 rfl) rfl (by show 2 * 0 + _ ≤ _; exact Nat.le_of_eq rfl) (hb hby at_189) (fun _ _ => ⟨rfl, rfl, (by decide : 8 + 1 ≤ _), (by decide : 25 + 3 ≤ _)⟩)
      dsimp only [Pt.U, Pt.locs, Pt.cells, Pt.slots] at X153 l153 y153 z153 st153 hQ153
      subst l153 y153 z153
      obtain ⟨r153, rfl, N153q, K153, E153, F153⟩ := hQ153
      have N154 := Fr.app N147 N153q
      have f155 := f148.keep K153 all0
      have f156 := f149.keep K153 nin0 nin0
      have f157 := f150.keep K153
      have f158 := Fw146.keep K153 nin0
      have f159 := Fn146.keep K153 nin0
      have z160 := Nat.le_trans z151 K153.1
      have hk161 := Nat.le_trans hk152 K153.1
      refine GoW.via (S' := T153.setTop (mkF m 192 #[.val (.int p1), .val (.int p2), .val (.int p3), .val (.int p4), .val (.int n), .val (.int r1), .val (.int r3), .val (.int r5), .val (.int r7), .val (.ref r87), .val (.int wc), .val (.int lc), .val (.ref r92), .val (.ref r98), .val (.int (0 : Int32)), .val (.ref b135), .unset] [(.ref r153)])) (fun _ k => st153.trans k) ?_
      refine GoW.via (S' := T153.setTop (mkF m 194 #[.val (.int p1), .val (.int p2), .val (.int p3), .val (.int p4), .val (.int n), .val (.int r1), .val (.int r3), .val (.int r5), .val (.int r7), .val (.ref r87), .val (.int wc), .val (.int lc), .val (.ref r92), .val (.ref r98), .val (.int (0 : Int32)), .val (.ref b135), .val (.ref r153)] [])) (fun _ k => XS.astore X153.here hx rfl (hb hby at_192) rfl rfl (l' := #[.val (.int p1), .val (.int p2), .val (.int p3), .val (.int p4), .val (.int n), .val (.int r1), .val (.int r3), .val (.int r5), .val (.int r7), .val (.ref r87), .val (.int wc), .val (.int lc), .val (.ref r92), .val (.ref r98), .val (.int (0 : Int32)), .val (.ref b135), .val (.ref r153)]) rfl k) ?_
      refine GoW.via (S' := T153.setTop (mkF m 196 #[.val (.int p1), .val (.int p2), .val (.int p3), .val (.int p4), .val (.int n), .val (.int r1), .val (.int r3), .val (.int r5), .val (.int r7), .val (.ref r87), .val (.int wc), .val (.int lc), .val (.ref r92), .val (.ref r98), .val (.int (0 : Int32)), .val (.ref b135), .val (.ref r153)] [(.ref b135)])) (fun _ k => XS.aload X153.here hx rfl (hb hby at_194) rfl rfl k) ?_
      obtain ⟨cq162, kq162, q162a, q162b, q162c⟩ := isOf hZ rfl f157
      obtain ⟨_, _, ⟨T162, L162, k162, n162⟩, -, X162, ⟨Lc162, hQ162, l162, y162, z162⟩, st162⟩ := X153.virtualBack hx (y := (⟨"com/example/amendatory/amendatory/ProvisionName", "isSection", "()Z"⟩ : MethodName)) (z := (⟨"com/example/amendatory/amendatory/ProvisionName", "isSection", "()Z"⟩ : MethodName)) hown (mvT hZ (hw _ (List.mem_of_getElem? (i := 74) rfl))) (mvT hZ (hw _ (List.mem_of_getElem? (i := 75) rfl))) (notFace_of_selects (args := #[]) (mvT hZ (hw _ (List.mem_of_getElem? (i := 77) rfl)))) (mvT hZ (hw _ (List.mem_of_getElem? (i := 77) rfl))) (mvT hZ (hw _ (List.mem_of_getElem? (i := 76) rfl))) (by decide) (backOf (W := 0) (rm16 l Z a0 hw [] b135 r87 G1 t87 (own_cs n r1 r3 r5 r7) T153.heap n0 z160 f159 f155 O2 P5 f156) hZ (hw _ (List.mem_of_getElem? (i := 78) rfl)) (hw _ (List.mem_of_getElem? (i := 54) rfl)) (by decide) (by decide)) q162a q162c (g := (mkF m 196 #[.val (.int p1), .val (.int p2), .val (.int p3), .val (.int p4), .val (.int n), .val (.int r1), .val (.int r3), .val (.int r5), .val (.int r7), .val (.ref r87), .val (.int wc), .val (.int lc), .val (.ref r92), .val (.ref r98), .val (.int (0 : Int32)), .val (.ref b135), .val (.ref r153)] [(.ref b135)])) rfl (by rw [hml]; rfl) (Steps.refl _) (argsL := []) (rest := []) (lenOf pd_9 rfl) rfl (by show 2 * 0 + _ ≤ _; exact Nat.le_of_eq rfl) (hb hby at_196) (fun _ _ => ⟨rfl, rfl, (by decide : 9 + 0 ≤ _), (by decide : 28 + 0 ≤ _)⟩)
      dsimp only [Pt.U, Pt.locs, Pt.cells, Pt.slots] at X162 l162 y162 z162 st162 hQ162
      subst l162 y162 z162
      obtain ⟨r162, rfl, N162q, e162, hr162⟩ := hQ162
      have N163 := Fr.app N154 N162q
      refine GoW.via (S' := T162.setTop (mkF m 199 #[.val (.int p1), .val (.int p2), .val (.int p3), .val (.int p4), .val (.int n), .val (.int r1), .val (.int r3), .val (.int r5), .val (.int r7), .val (.ref r87), .val (.int wc), .val (.int lc), .val (.ref r92), .val (.ref r98), .val (.int (0 : Int32)), .val (.ref b135), .val (.ref r153)] [(.int r162)])) (fun _ k => st162.trans k) ?_
      rcases hr162 with ⟨rfl, hB⟩ | ⟨rfl, hB⟩
      · refine GoW.via (S' := T162.setTop (mkF m 201 #[.val (.int p1), .val (.int p2), .val (.int p3), .val (.int p4), .val (.int n), .val (.int r1), .val (.int r3), .val (.int r5), .val (.int r7), .val (.ref r87), .val (.int wc), .val (.int lc), .val (.ref r92), .val (.ref r98), .val (.int (0 : Int32)), .val (.ref b135), .val (.ref r153)] [(.int (0 : Int32)), (.int (1 : Int32))])) (fun _ k => XS.iload X162.here hx rfl (hb hby at_199) rfl k) ?_
        refine GoW.via (S' := T162.setTop (mkF m 204 #[.val (.int p1), .val (.int p2), .val (.int p3), .val (.int p4), .val (.int n), .val (.int r1), .val (.int r3), .val (.int r5), .val (.int r7), .val (.ref r87), .val (.int wc), .val (.int lc), .val (.ref r92), .val (.ref r98), .val (.int (0 : Int32)), .val (.ref b135), .val (.ref r153)] [(.int (1 : Int32))])) (fun _ k => XS.ifNo X162.here hx rfl (hb hby at_201) rfl ((if0 _ _).trans (teq (by decide)).2) k) ?_
        refine GoW.via (S' := T162.setTop (mkF m 205 #[.val (.int p1), .val (.int p2), .val (.int p3), .val (.int p4), .val (.int n), .val (.int r1), .val (.int r3), .val (.int r5), .val (.int r7), .val (.ref r87), .val (.int wc), .val (.int lc), .val (.ref r92), .val (.ref r98), .val (.int (0 : Int32)), .val (.ref b135), .val (.ref r153)] [(.int (1 : Int32)), (.int (1 : Int32))])) (fun _ k => XS.iconst X162.here hx rfl (hb hby at_204) k) ?_
        refine GoW.via (S' := T162.setTop (mkF m 209 #[.val (.int p1), .val (.int p2), .val (.int p3), .val (.int p4), .val (.int n), .val (.int r1), .val (.int r3), .val (.int r5), .val (.int r7), .val (.ref r87), .val (.int wc), .val (.int lc), .val (.ref r92), .val (.ref r98), .val (.int (0 : Int32)), .val (.ref b135), .val (.ref r153)] [(.int (1 : Int32)), (.int (1 : Int32))])) (fun _ k => XS.goto X162.here hx rfl (pc0 := 205) (pc' := 209) rfl (hb hby at_205) (by decide) (by decide) k) ?_
        refine GoW.via (S' := T162.setTop (mkF m 212 #[.val (.int p1), .val (.int p2), .val (.int p3), .val (.int p4), .val (.int n), .val (.int r1), .val (.int r3), .val (.int r5), .val (.int r7), .val (.ref r87), .val (.int wc), .val (.int lc), .val (.ref r92), .val (.ref r98), .val (.int (0 : Int32)), .val (.ref b135), .val (.ref r153)] [])) (fun _ k => XS.icmpNo X162.here hx rfl (hb hby at_209) rfl (teq (by decide)).2 k) ?_
        refine GoW.via (S' := T162.setTop (mkF m 214 #[.val (.int p1), .val (.int p2), .val (.int p3), .val (.int p4), .val (.int n), .val (.int r1), .val (.int r3), .val (.int r5), .val (.int r7), .val (.ref r87), .val (.int wc), .val (.int lc), .val (.ref r92), .val (.ref r98), .val (.int (0 : Int32)), .val (.ref b135), .val (.ref r153)] [(.ref r153)])) (fun _ k => XS.aload X162.here hx rfl (hb hby at_212) rfl rfl k) ?_
        obtain ⟨cq164, kq164, q164a, q164b, q164c⟩ := isOf hZ e162 E153
        obtain ⟨_, _, ⟨T164, L164, k164, n164⟩, -, X164, ⟨Lc164, hQ164, l164, y164, z164⟩, st164⟩ := X162.virtualBack hx (y := (⟨"com/example/amendatory/amendatory/ProvisionName", "isSection", "()Z"⟩ : MethodName)) (z := (⟨"com/example/amendatory/amendatory/ProvisionName", "isSection", "()Z"⟩ : MethodName)) hown (mvT hZ (hw _ (List.mem_of_getElem? (i := 74) rfl))) (mvT hZ (hw _ (List.mem_of_getElem? (i := 75) rfl))) (notFace_of_selects (args := #[]) (mvT hZ (hw _ (List.mem_of_getElem? (i := 77) rfl)))) (mvT hZ (hw _ (List.mem_of_getElem? (i := 77) rfl))) (mvT hZ (hw _ (List.mem_of_getElem? (i := 76) rfl))) (by decide) (backOf (W := 0) (rm16 l Z a0 hw [] r153 r87 G1 t87 (own_cs n r1 r3 r5 r7) T153.heap n0 z160 F153 f155 O2 P5 f156) hZ (hw _ (List.mem_of_getElem? (i := 78) rfl)) (hw _ (List.mem_of_getElem? (i := 54) rfl)) (by decide) (by decide)) q164a q164c (g := (mkF m 214 #[.val (.int p1), .val (.int p2), .val (.int p3), .val (.int p4), .val (.int n), .val (.int r1), .val (.int r3), .val (.int r5), .val (.int r7), .val (.ref r87), .val (.int wc), .val (.int lc), .val (.ref r92), .val (.ref r98), .val (.int (0 : Int32)), .val (.ref b135), .val (.ref r153)] [(.ref r153)])) rfl (by rw [hml]; rfl) (Steps.refl _) (argsL := []) (rest := []) (lenOf pd_9 rfl) rfl (by show 2 * 0 + _ ≤ _; exact Nat.le_of_eq rfl) (hb hby at_214) (fun _ _ => ⟨rfl, e162, (by decide : 9 + 0 ≤ _), (by decide : 28 + 0 ≤ _)⟩)
        dsimp only [Pt.U, Pt.locs, Pt.cells, Pt.slots] at X164 l164 y164 z164 st164 hQ164
        subst l164 y164 z164
        obtain ⟨r164, rfl, N164q, e164, hr164⟩ := hQ164
        have N165 := Fr.app N163 N164q
        refine GoW.via (S' := T164.setTop (mkF m 217 #[.val (.int p1), .val (.int p2), .val (.int p3), .val (.int p4), .val (.int n), .val (.int r1), .val (.int r3), .val (.int r5), .val (.int r7), .val (.ref r87), .val (.int wc), .val (.int lc), .val (.ref r92), .val (.ref r98), .val (.int (0 : Int32)), .val (.ref b135), .val (.ref r153)] [(.int r164)])) (fun _ k => st164.trans k) ?_
        rcases hr164 with ⟨rfl, hB⟩ | ⟨rfl, hB⟩
        · refine GoW.via (S' := T164.setTop (mkF m 219 #[.val (.int p1), .val (.int p2), .val (.int p3), .val (.int p4), .val (.int n), .val (.int r1), .val (.int r3), .val (.int r5), .val (.int r7), .val (.ref r87), .val (.int wc), .val (.int lc), .val (.ref r92), .val (.ref r98), .val (.int (0 : Int32)), .val (.ref b135), .val (.ref r153)] [(.int (0 : Int32)), (.int (1 : Int32))])) (fun _ k => XS.iload X164.here hx rfl (hb hby at_217) rfl k) ?_
          refine GoW.via (S' := T164.setTop (mkF m 222 #[.val (.int p1), .val (.int p2), .val (.int p3), .val (.int p4), .val (.int n), .val (.int r1), .val (.int r3), .val (.int r5), .val (.int r7), .val (.ref r87), .val (.int wc), .val (.int lc), .val (.ref r92), .val (.ref r98), .val (.int (0 : Int32)), .val (.ref b135), .val (.ref r153)] [(.int (1 : Int32))])) (fun _ k => XS.ifNo X164.here hx rfl (hb hby at_219) rfl ((if0 _ _).trans (teq (by decide)).2) k) ?_
          refine GoW.via (S' := T164.setTop (mkF m 223 #[.val (.int p1), .val (.int p2), .val (.int p3), .val (.int p4), .val (.int n), .val (.int r1), .val (.int r3), .val (.int r5), .val (.int r7), .val (.ref r87), .val (.int wc), .val (.int lc), .val (.ref r92), .val (.ref r98), .val (.int (0 : Int32)), .val (.ref b135), .val (.ref r153)] [(.int (1 : Int32)), (.int (1 : Int32))])) (fun _ k => XS.iconst X164.here hx rfl (hb hby at_222) k) ?_
          refine GoW.via (S' := T164.setTop (mkF m 227 #[.val (.int p1), .val (.int p2), .val (.int p3), .val (.int p4), .val (.int n), .val (.int r1), .val (.int r3), .val (.int r5), .val (.int r7), .val (.ref r87), .val (.int wc), .val (.int lc), .val (.ref r92), .val (.ref r98), .val (.int (0 : Int32)), .val (.ref b135), .val (.ref r153)] [(.int (1 : Int32)), (.int (1 : Int32))])) (fun _ k => XS.goto X164.here hx rfl (pc0 := 223) (pc' := 227) rfl (hb hby at_223) (by decide) (by decide) k) ?_
          refine GoW.via (S' := T164.setTop (mkF m 230 #[.val (.int p1), .val (.int p2), .val (.int p3), .val (.int p4), .val (.int n), .val (.int r1), .val (.int r3), .val (.int r5), .val (.int r7), .val (.ref r87), .val (.int wc), .val (.int lc), .val (.ref r92), .val (.ref r98), .val (.int (0 : Int32)), .val (.ref b135), .val (.ref r153)] [])) (fun _ k => XS.icmpNo X164.here hx rfl (hb hby at_227) rfl (teq (by decide)).2 k) ?_
          refine GoW.via (S' := T164.setTop (mkF m 231 #[.val (.int p1), .val (.int p2), .val (.int p3), .val (.int p4), .val (.int n), .val (.int r1), .val (.int r3), .val (.int r5), .val (.int r7), .val (.ref r87), .val (.int wc), .val (.int lc), .val (.ref r92), .val (.ref r98), .val (.int (0 : Int32)), .val (.ref b135), .val (.ref r153)] [(.int (1 : Int32))])) (fun _ k => XS.iconst X164.here hx rfl (hb hby at_230) k) ?_
          refine GoW.via (S' := T164.setTop (mkF m 235 #[.val (.int p1), .val (.int p2), .val (.int p3), .val (.int p4), .val (.int n), .val (.int r1), .val (.int r3), .val (.int r5), .val (.int r7), .val (.ref r87), .val (.int wc), .val (.int lc), .val (.ref r92), .val (.ref r98), .val (.int (0 : Int32)), .val (.ref b135), .val (.ref r153)] [(.int (1 : Int32))])) (fun _ k => XS.goto X164.here hx rfl (pc0 := 231) (pc' := 235) rfl (hb hby at_231) (by decide) (by decide) k) ?_
          exact GoW.retB X164 hx (BodyLoose.notSynchronized Bd) hS0 (by rw [e164]; exact hk161) Bd.returns (hb hby at_235) rfl (by rw [e164]; exact ⟨rfl, N165⟩) (by decide) (by decide)
        · exact absurd hB hex
      · exact absurd hB hex
set_option maxRecDepth 65536 in
set_option maxHeartbeats 40000000 in
theorem comes_1 {Post : Tables → Env → Array Value → State → Outcome → State → Prop} (hpost : ∀ tb e args s v u, (limb_1_1.after args s (.returned v) u = true ∧ limb_1_2.after args s (.returned v) u = true ∧ True) → ReturnedEndW s (.returned v) u (Jvm.fieldLocs frame_1_writes args s ++ Jvm.arrayLocs frame_1_arrays args s ++ Jvm.staticLocs frame_1_statics s) 32 1152 → Post tb e args s (.returned v) u) :
    ArmFor flags0 classFile x code maxLocals ret World_1 tables_1 room_1 Calls_1 rest_1 Pre_1 Post := by
  intro l hfl _ _ p e ha hc hk s m args below hf hA hF happ hP
  obtain ⟨hcalls, hrest, hpre⟩ := hP
  obtain ⟨-, -, -, hnamed, -, -, -, hat⟩ := (Spec.applies_iff hf).mp happ
  obtain ⟨hg, hn⟩ := and_e (Cond.before_iff.mp (show (Jvm.Cond.and given_1 narrow_1).before args s = true from hpre))
  obtain ⟨gg0, hg0⟩ := and_e hg
  obtain ⟨gg1, hg1⟩ := and_e hg0
  obtain ⟨gg2, hg2⟩ := and_e hg1
  obtain ⟨gg3, hg3⟩ := and_e hg2
  obtain ⟨w0, w1, w2, w3, rfl⟩ : ∃ w0 w1 w2 w3 : Value, args = #[w0, w1, w2, w3] := by
    have hs : args.size = 4 := by simpa [Cond.value, given_1] using gg0
    obtain ⟨L⟩ := args
    match L, hs with
    | [w0, w1, w2, w3], _ => exact ⟨w0, w1, w2, w3, rfl⟩
  have hw := fun d (hd : d ∈ tables_1) => atoms_spec (ws := Jvm.Cond.code x code maxLocals ret :: tables_1) hat d (List.mem_cons_of_mem _ hd)
  have hfit : Fit s := fun {y c} hc i hi => by
    obtain ⟨ha, rfl⟩ := Array.getElem?_eq_some_iff.mp hc
    have q := List.all_eq_true.mp ((Array.all_eq_true_iff_forall_mem.mp hF) _ (Array.getElem_mem ha)) i (List.mem_range.mpr hi)
    simpa [Array.getElem?_eq_getElem hi] using q
  obtain ⟨hsets, hown0⟩ := atoms_of _ (rest_1_c_eq ▸ (show rest_1_c.before _ s = true from hrest))
  obtain ⟨i0, ei0⟩ := is_v gg1
  obtain rfl : w0 = (.int i0) := Option.some.inj ei0
  obtain ⟨i1, ei1⟩ := is_v gg2
  obtain rfl : w1 = (.int i1) := Option.some.inj ei1
  obtain ⟨i2, ei2⟩ := is_v gg3
  obtain rfl : w2 = (.int i2) := Option.some.inj ei2
  obtain ⟨i3, ei3⟩ := is_v hg3
  obtain rfl : w3 = (.int i3) := Option.some.inj ei3
  obtain ⟨G1, eG1⟩ := is_v (Cond.before_iff.mp (hsets _ (List.mem_of_getElem? (i := 1) rfl)))
  have O2 := Sta.start eG1 (Or.inl (hsets _ (List.mem_of_getElem? (i := 0) rfl)))
  have P5 : ¬ G1 = (0 : Int32) := gotF (Cond.eq_ints eG1 (Term.int_eval 0)) (not_v (Cond.before_iff.mp (hsets _ (List.mem_of_getElem? (i := 2) rfl))))
  have hcw : Jvm.Lit.compactW.before _ s = true := (hsets _ (List.mem_of_getElem? (i := 2) rfl))
  have hch : Jvm.Lit.constHeld s "com/example/amendatory/amendatory/ProvisionNameIsSectionPinLaw" 37 := hcalls.1 _ (List.mem_of_getElem? (i := 0) rfl)
  obtain ⟨n, o, h1, h2, h3, _, L, rfl, ⟨rfl, N⟩, hq⟩ := rm0 l s _ hw tables_1 i0 i1 i2 i3 G1 s.heap s.heap.size (Nat.le_refl _) (Old.start s) O2 P5 hch hcw p e ha hc hk s m _ below hf ((Spec.applies_iff_loose hf).mp happ).1 ⟨rfl, State.Warmed39.refl s, rfl, rfl⟩ trivial
  refine ⟨n, _, h1, h2, h3, hpost _ _ _ _ _ _ ⟨Cond.after_iff.mpr rfl, Cond.after_iff.mpr (eq_i res_at (Term.int_eval (1)) rfl), trivial⟩ ⟨hq.1, hq.2.1, hq.2.2.1, (hq.2.2.2.sift fun y hy => Or.inr (N y hy)).mono (by decide) (by decide)⟩⟩
theorem main_1_1 : Claimed_1_1 := comes_1 fun _ _ _ _ _ _ h hF => ⟨h.1, hF⟩
theorem main_1_2 : Claimed_1_2 := comes_1 fun _ _ _ _ _ _ h hF => ⟨h.2.1, hF⟩
end Jvm.Pilot.@@N@@
namespace Jvm.Pilot.@@N@@
open Jvm Jvm.ClassFile Sem Op Lib Jvm.Free Jvm.Stand Jvm.Pilot.@@N@@.Jvm.D
/-! MADE BY PROGRAM (witnessworld.py) out of the Statement's table words and the real class files: 21 classes; the members and pool entries that the words name. The judged class is class 1, her method 1. -/
namespace start1
open Jvm.ClassFile
def u (s : String) : CpInfo := .utf8 (stringToUtf16 s)
/-- a pool by its gaps: so many unusable entries, then the entry; so many at the end -/
def gap : Nat → List CpInfo → List CpInfo
  | 0, r => r
  | n + 1, r => .unusable :: gap n r
def poolList (es : List (Nat × CpInfo)) (last : Nat) : List CpInfo := es.foldr (fun e r => gap e.1 (e.2 :: r)) (gap last [])
def pool (es : List (Nat × CpInfo)) (last : Nat) : Array CpInfo := ⟨poolList es last⟩
def fileOf (pool : Array CpInfo) (this : Nat) (attrs : Array Attribute := #[]) (ms : Array MethodInfo := #[]) (fl : Nat := 33) (sup : Nat := 0) (ifs : Array Nat := #[]) (fds : Array FieldInfo := #[]) : ClassFile where
  minorVersion := 0
  majorVersion := 65
  constantPool := pool
  accessFlags := fl
  thisClass := this
  superClass := sup
  interfaces := ifs
  fields := fds
  methods := ms
  attributes := attrs
def plain (name : String) (sup : Option ClassId) : Class where
  name := name
  kind := .ordinary
  loader := none
  accessFlags := 33
  super := sup
  interfaces := #[]
  cf := none
  fields := #[]
  methods := #[]
  instanceTypes := #[]
  staticTypes := #[]
  resolved := #[]
  callSites := []
  init := .initialized
  statics := none
  mirror := none

def pool0 : Array CpInfo := pool [(5, u "<init>"), (0, u "()V"), (1, .class_ 10), (1, u "java/lang/Object")] 113

def k0c0 : Code := { maxStack := 0, maxLocals := 1, code := object_method_1_code, exceptionTable := #[], attributes := #[] }
def k0m0 : Method := { name := "<init>", desc := "()V", sig := { parameters := [], returnType := none }, accessFlags := 1, code := some k0c0 }
/-- java/lang/Object -/
def k0 : Class := { plain "java/lang/Object" none with
  accessFlags := 33
  interfaces := #[]
  cf := some (fileOf pool0 8 #[] #[{ accessFlags := 1, nameIndex := 5, descriptorIndex := 6, attributes := #[] }] 33 0 #[] #[])
  fields := #[]
  methods := #[k0m0]
  instanceTypes := #[]
  staticTypes := #[]
  resolved := Array.replicate 124 none
  statics := none }

def pool1 : Array CpInfo := pool [(2, .class_ 4), (1, u "java/lang/Object"), (0, u "<init>"), (0, u "()V"), (0, .integer 2147483647), (0, .methodref 9 10), (0, .class_ 11), (0, .nameAndType 12 13), (0, u "com/example/amendatory/amendatory/ProvisionNameIsSectionPinLaw"), (0, u "pick"), (0, u "(III)C"), (0, .methodref 9 15), (0, .nameAndType 16 17), (0, u "make"), (0, u "(ICCCC)Ljava/lang/String;"), (0, .methodref 19 20), (0, .class_ 21), (0, .nameAndType 22 23), (0, u "java/lang/String"), (0, u "valueOf"), (0, u "(C)Ljava/lang/String;"), (0, .class_ 25), (0, u "com/example/amendatory/amendatory/ProvisionName"), (0, .methodref 24 27), (0, .nameAndType 5 28), (0, u "(Ljava/lang/String;Ljava/lang/String;)V"), (0, .methodref 24 30), (0, .nameAndType 31 32), (0, u "paragraph"), (0, u "(Ljava/lang/String;)Lcom/example/amendatory/amendatory/ProvisionName;"), (0, .methodref 24 34), (0, .nameAndType 35 36), (0, u "isSection"), (0, u "()Z"), (0, .string 38), (0, u ""), (0, .methodref 19 40), (0, .nameAndType 5 41), (0, u "([C)V"), (2, u "law"), (0, u "(IIII)Z")] 3

def k1m0 : Method := { name := "<init>", desc := "()V", sig := { parameters := [], returnType := none }, accessFlags := 1, code := none }
def k1c1 : Code := { maxStack := 5, maxLocals := 17, code := code, exceptionTable := #[], attributes := #[] }
def k1m1 : Method := { name := "law", desc := "(IIII)Z", sig := { parameters := [.int, .int, .int, .int], returnType := some .boolean }, accessFlags := 9, code := some k1c1 }
def k1c2 : Code := { maxStack := 3, maxLocals := 3, code := method_3_code, exceptionTable := #[], attributes := #[] }
def k1m2 : Method := { name := "pick", desc := "(III)C", sig := { parameters := [.int, .int, .int], returnType := some .char }, accessFlags := 10, code := some k1c2 }
def k1c3 : Code := { maxStack := 6, maxLocals := 5, code := method_4_code, exceptionTable := #[], attributes := #[] }
def k1m3 : Method := { name := "make", desc := "(ICCCC)Ljava/lang/String;", sig := { parameters := [.int, .char, .char, .char, .char], returnType := some (.object "java/lang/String") }, accessFlags := 10, code := some k1c3 }
/-- com/example/amendatory/amendatory/ProvisionNameIsSectionPinLaw -/
def k1 : Class := { plain "com/example/amendatory/amendatory/ProvisionNameIsSectionPinLaw" (some 0) with
  accessFlags := 49
  interfaces := #[]
  cf := some (fileOf pool1 9 #[] #[{ accessFlags := 1, nameIndex := 5, descriptorIndex := 6, attributes := #[] }, { accessFlags := 9, nameIndex := 44, descriptorIndex := 45, attributes := #[] }, { accessFlags := 10, nameIndex := 12, descriptorIndex := 13, attributes := #[] }, { accessFlags := 10, nameIndex := 16, descriptorIndex := 17, attributes := #[] }] 49 2 #[] #[])
  fields := #[]
  methods := #[k1m0, k1m1, k1m2, k1m3]
  instanceTypes := #[]
  staticTypes := #[]
  resolved := Array.replicate 49 none
  statics := none }

def pool2 : Array CpInfo := pool [(1, .class_ 2), (0, u "java/io/Serializable"), (0, .class_ 4), (0, u "java/lang/Object")] 2

/-- java/io/Serializable -/
def k2 : Class := { plain "java/io/Serializable" (some 0) with
  accessFlags := 1537
  interfaces := #[]
  cf := some (fileOf pool2 1 #[] #[] 1537 3 #[] #[])
  fields := #[]
  methods := #[]
  instanceTypes := #[]
  staticTypes := #[]
  resolved := Array.replicate 7 none
  statics := none }

def pool3 : Array CpInfo := pool [(1, .class_ 2), (0, u "java/lang/Comparable"), (0, .class_ 4), (0, u "java/lang/Object")] 7

/-- java/lang/Comparable -/
def k3 : Class := { plain "java/lang/Comparable" (some 0) with
  accessFlags := 1537
  interfaces := #[]
  cf := some (fileOf pool3 1 #[] #[] 1537 3 #[] #[])
  fields := #[]
  methods := #[]
  instanceTypes := #[]
  staticTypes := #[]
  resolved := Array.replicate 12 none
  statics := none }

def pool4 : Array CpInfo := pool [(2, .class_ 4), (1, u "java/lang/CharSequence"), (42, .class_ 48), (0, u "java/lang/CharSequence$1CodePointIterator"), (10, .class_ 60), (0, u "java/lang/CharSequence$1CharIterator"), (5, .class_ 67), (0, u "java/lang/Object")] 63

/-- java/lang/CharSequence -/
def k4 : Class := { plain "java/lang/CharSequence" (some 0) with
  accessFlags := 1537
  interfaces := #[]
  cf := some (fileOf pool4 2 #[.nestMembers #[47, 59]] #[] 1537 66 #[] #[])
  fields := #[]
  methods := #[]
  instanceTypes := #[]
  staticTypes := #[]
  resolved := Array.replicate 131 none
  statics := none }

def pool5 : Array CpInfo := pool [(1, .class_ 2), (0, u "java/lang/constant/Constable"), (0, .class_ 4), (0, u "java/lang/Object")] 6

/-- java/lang/constant/Constable -/
def k5 : Class := { plain "java/lang/constant/Constable" (some 0) with
  accessFlags := 1537
  interfaces := #[]
  cf := some (fileOf pool5 1 #[] #[] 1537 3 #[] #[])
  fields := #[]
  methods := #[]
  instanceTypes := #[]
  staticTypes := #[]
  resolved := Array.replicate 11 none
  statics := none }

def pool6 : Array CpInfo := pool [(1, .class_ 2), (0, u "java/lang/constant/ConstantDesc"), (0, .class_ 4), (0, u "java/lang/Object")] 32

/-- java/lang/constant/ConstantDesc -/
def k6 : Class := { plain "java/lang/constant/ConstantDesc" (some 0) with
  accessFlags := 1537
  interfaces := #[]
  cf := some (fileOf pool6 1 #[] #[] 1537 3 #[] #[])
  fields := #[]
  methods := #[]
  instanceTypes := #[]
  staticTypes := #[]
  resolved := Array.replicate 37 none
  statics := none }

def pool7 : Array CpInfo := pool [(1, .methodref 2 3), (0, .class_ 4), (0, .nameAndType 5 6), (0, u "java/lang/Object"), (0, u "<init>"), (0, u "()V"), (2, .fieldref 10 11), (0, .class_ 12), (0, .nameAndType 13 14), (0, u "java/lang/String"), (0, u "value"), (0, u "[B"), (0, .fieldref 10 16), (0, .nameAndType 17 18), (0, u "coder"), (0, u "B"), (2, u "hash"), (0, u "I"), (2, u "hashIsZero"), (0, u "Z"), (0, .methodref 10 28), (0, .nameAndType 5 29), (0, u "([CIILjava/lang/Void;)V"), (8, .fieldref 10 39), (0, .nameAndType 40 26), (0, u "COMPACT_STRINGS"), (1, .class_ 44), (1, u "java/lang/StringUTF16"), (0, u "compress"), (1, .methodref 42 48), (0, .nameAndType 49 50), (0, u "coderFromArrayLen"), (0, u "([BI)B"), (2, u "toBytes"), (53, .class_ 109), (1, u "java/lang/StringLatin1"), (32, u "()Z"), (34, .methodref 42 178), (0, .nameAndType 45 179), (0, u "([CII)[B"), (29, .methodref 10 210), (0, .nameAndType 5 211), (0, u "([BB)V"), (122, u "()I"), (0, .methodref 10 336), (0, .nameAndType 17 337), (0, u "()B"), (31, u "(C)Z"), (122, .methodref 10 493), (0, .nameAndType 494 142), (0, u "isLatin1"), (10, .methodref 10 506), (0, .nameAndType 507 334), (0, u "length"), (67, .class_ 576), (0, u "java/lang/CharSequence"), (22, u "CASE_INSENSITIVE_ORDER"), (0, u "Ljava/util/Comparator;"), (32, .methodref 10 634), (0, .nameAndType 635 636), (0, u "indexOf"), (0, u "(II)I"), (0, .methodref 107 638), (0, .nameAndType 635 639), (0, u "([BIII)I"), (125, u "(I)I"), (16, u "valueOf"), (0, u "(C)Ljava/lang/String;"), (226, u "([C)V"), (4, .methodref 107 1016), (0, .nameAndType 1017 369), (0, u "canEncode"), (0, .methodref 107 1019), (0, .nameAndType 53 1020), (0, u "(C)[B"), (80, u "serialPersistentFields"), (0, u "[Ljava/io/ObjectStreamField;"), (0, .class_ 1104), (0, u "java/lang/String$CaseInsensitiveComparator"), (1, .class_ 1107), (0, u "java/io/Serializable"), (0, .class_ 1109), (0, u "java/lang/Comparable"), (0, .class_ 1111), (0, u "java/lang/constant/Constable"), (0, .class_ 1113), (0, u "java/lang/constant/ConstantDesc"), (2, u "serialVersionUID"), (0, u "J"), (3, u "REPL"), (0, u "C"), (2, u "LATIN1"), (1, u "UTF16")] 323

def k7m0 : Method := { name := "<init>", desc := "()V", sig := { parameters := [], returnType := none }, accessFlags := 1, code := none }
def k7c1 : Code := { maxStack := 5, maxLocals := 2, code := jdk_42_method_3_code, exceptionTable := #[], attributes := #[] }
def k7m1 : Method := { name := "<init>", desc := "([C)V", sig := { parameters := [(.array .char)], returnType := none }, accessFlags := 1, code := some k7c1 }
def k7c2 : Code := { maxStack := 2, maxLocals := 1, code := jdk_42_method_54_code, exceptionTable := #[], attributes := #[] }
def k7m2 : Method := { name := "length", desc := "()I", sig := { parameters := [], returnType := some .int }, accessFlags := 1, code := some k7c2 }
def k7c3 : Code := { maxStack := 3, maxLocals := 2, code := jdk_42_method_79_code, exceptionTable := #[], attributes := #[] }
def k7m3 : Method := { name := "indexOf", desc := "(I)I", sig := { parameters := [.int], returnType := some .int }, accessFlags := 1, code := some k7c3 }
def k7c4 : Code := { maxStack := 4, maxLocals := 3, code := jdk_42_method_80_code, exceptionTable := #[], attributes := #[] }
def k7m4 : Method := { name := "indexOf", desc := "(II)I", sig := { parameters := [.int, .int], returnType := some .int }, accessFlags := 1, code := some k7c4 }
def k7c5 : Code := { maxStack := 4, maxLocals := 1, code := jdk_42_method_139_code, exceptionTable := #[], attributes := #[] }
def k7m5 : Method := { name := "valueOf", desc := "(C)Ljava/lang/String;", sig := { parameters := [.char], returnType := some (.object "java/lang/String") }, accessFlags := 9, code := some k7c5 }
def k7c6 : Code := { maxStack := 4, maxLocals := 6, code := jdk_42_method_149_code, exceptionTable := #[], attributes := #[] }
def k7m6 : Method := { name := "<init>", desc := "([CIILjava/lang/Void;)V", sig := { parameters := [(.array .char), .int, .int, (.object "java/lang/Void")], returnType := none }, accessFlags := 2, code := some k7c6 }
def k7c7 : Code := { maxStack := 2, maxLocals := 3, code := jdk_42_method_151_code, exceptionTable := #[], attributes := #[] }
def k7m7 : Method := { name := "<init>", desc := "([BB)V", sig := { parameters := [(.array .byte), .byte], returnType := none }, accessFlags := 0, code := some k7c7 }
def k7c8 : Code := { maxStack := 1, maxLocals := 1, code := jdk_42_method_152_code, exceptionTable := #[], attributes := #[] }
def k7m8 : Method := { name := "coder", desc := "()B", sig := { parameters := [], returnType := some .byte }, accessFlags := 0, code := some k7c8 }
def k7c9 : Code := { maxStack := 1, maxLocals := 1, code := jdk_42_method_154_code, exceptionTable := #[], attributes := #[] }
def k7m9 : Method := { name := "isLatin1", desc := "()Z", sig := { parameters := [], returnType := some .boolean }, accessFlags := 0, code := some k7c9 }
/-- java/lang/String -/
def k7 : Class := { plain "java/lang/String" (some 0) with
  accessFlags := 49
  interfaces := #[2, 3, 4, 5, 6]
  cf := some (fileOf pool7 10 #[.nestMembers #[1103]] #[{ accessFlags := 1, nameIndex := 5, descriptorIndex := 6, attributes := #[] }, { accessFlags := 1, nameIndex := 5, descriptorIndex := 1010, attributes := #[] }, { accessFlags := 1, nameIndex := 507, descriptorIndex := 334, attributes := #[] }, { accessFlags := 1, nameIndex := 635, descriptorIndex := 765, attributes := #[] }, { accessFlags := 1, nameIndex := 635, descriptorIndex := 636, attributes := #[] }, { accessFlags := 9, nameIndex := 782, descriptorIndex := 783, attributes := #[] }, { accessFlags := 2, nameIndex := 5, descriptorIndex := 29, attributes := #[] }, { accessFlags := 0, nameIndex := 5, descriptorIndex := 211, attributes := #[] }, { accessFlags := 0, nameIndex := 17, descriptorIndex := 337, attributes := #[] }, { accessFlags := 0, nameIndex := 494, descriptorIndex := 142, attributes := #[] }] 49 2 #[1106, 1108, 575, 1110, 1112] #[{ accessFlags := 18, nameIndex := 13, descriptorIndex := 14, attributes := #[] }, { accessFlags := 18, nameIndex := 17, descriptorIndex := 18, attributes := #[] }, { accessFlags := 2, nameIndex := 21, descriptorIndex := 22, attributes := #[] }, { accessFlags := 2, nameIndex := 25, descriptorIndex := 26, attributes := #[] }, { accessFlags := 26, nameIndex := 1116, descriptorIndex := 1117, attributes := #[] }, { accessFlags := 24, nameIndex := 40, descriptorIndex := 26, attributes := #[] }, { accessFlags := 26, nameIndex := 1101, descriptorIndex := 1102, attributes := #[] }, { accessFlags := 26, nameIndex := 1121, descriptorIndex := 1122, attributes := #[] }, { accessFlags := 25, nameIndex := 599, descriptorIndex := 600, attributes := #[] }, { accessFlags := 24, nameIndex := 1125, descriptorIndex := 18, attributes := #[] }, { accessFlags := 24, nameIndex := 1127, descriptorIndex := 18, attributes := #[] }])
  fields := #[{ name := "value", type := (.array .byte), accessFlags := 18, slot := 0, constantValue := 0 }, { name := "coder", type := .byte, accessFlags := 18, slot := 1, constantValue := 0 }, { name := "hash", type := .int, accessFlags := 2, slot := 2, constantValue := 0 }, { name := "hashIsZero", type := .boolean, accessFlags := 2, slot := 3, constantValue := 0 }, { name := "serialVersionUID", type := .long, accessFlags := 26, slot := 0, constantValue := 0 }, { name := "COMPACT_STRINGS", type := .boolean, accessFlags := 24, slot := 1, constantValue := 0 }, { name := "serialPersistentFields", type := (.array (.object "java/io/ObjectStreamField")), accessFlags := 26, slot := 2, constantValue := 0 }, { name := "REPL", type := .char, accessFlags := 26, slot := 3, constantValue := 0 }, { name := "CASE_INSENSITIVE_ORDER", type := (.object "java/util/Comparator"), accessFlags := 25, slot := 4, constantValue := 0 }, { name := "LATIN1", type := .byte, accessFlags := 24, slot := 5, constantValue := 0 }, { name := "UTF16", type := .byte, accessFlags := 24, slot := 6, constantValue := 0 }]
  methods := #[k7m0, k7m1, k7m2, k7m3, k7m4, k7m5, k7m6, k7m7, k7m8, k7m9]
  instanceTypes := #[(.array .byte), .byte, .int, .boolean]
  staticTypes := #[.long, .boolean, (.array (.object "java/io/ObjectStreamField")), .char, (.object "java/util/Comparator"), .byte, .byte]
  resolved := Array.replicate 1451 none
  statics := some 0 }

def pool8 : Array CpInfo := pool [(6, .class_ 8), (1, u "java/lang/Object"), (0, u "<init>"), (0, u "()V"), (1, .class_ 14), (1, u "java/lang/StringUTF16"), (31, u "$assertionsDisabled"), (0, u "Z"), (13, u "HI_BYTE_SHIFT"), (0, u "I"), (2, u "LO_BYTE_SHIFT"), (49, .methodref 12 116), (0, .nameAndType 117 118), (0, u "compress"), (0, u "([CI[BII)I"), (3, u "([CII)[B"), (138, u "coderFromArrayLen"), (0, u "([BI)B"), (106, .class_ 371), (1, u "java/lang/StringUTF16$LinesSpliterator"), (58, u "MAX_LENGTH"), (196, .class_ 628), (0, u "java/lang/StringUTF16$CodePointsSpliterator"), (0, .class_ 630), (0, u "java/lang/StringUTF16$CharsSpliterator")] 4

def k8m0 : Method := { name := "<init>", desc := "()V", sig := { parameters := [], returnType := none }, accessFlags := 0, code := none }
def k8c1 : Code := { maxStack := 2, maxLocals := 2, code := jdk_52_method_15_code, exceptionTable := #[], attributes := #[] }
def k8m1 : Method := { name := "coderFromArrayLen", desc := "([BI)B", sig := { parameters := [(.array .byte), .int], returnType := some .byte }, accessFlags := 8, code := some k8c1 }
def k8c2 : Code := { maxStack := 5, maxLocals := 6, code := jdk_52_method_16_code, exceptionTable := #[], attributes := #[] }
def k8m2 : Method := { name := "compress", desc := "([CII)[B", sig := { parameters := [(.array .char), .int, .int], returnType := some (.array .byte) }, accessFlags := 9, code := some k8c2 }
def k8c3 : Code := { maxStack := 3, maxLocals := 7, code := jdk_52_method_21_code, exceptionTable := #[], attributes := #[] }
def k8m3 : Method := { name := "compress", desc := "([CI[BII)I", sig := { parameters := [(.array .char), .int, (.array .byte), .int, .int], returnType := some .int }, accessFlags := 9, code := some k8c3 }
/-- java/lang/StringUTF16 -/
def k8 : Class := { plain "java/lang/StringUTF16" (some 0) with
  accessFlags := 48
  interfaces := #[]
  cf := some (fileOf pool8 12 #[.nestMembers #[627, 629, 369]] #[{ accessFlags := 0, nameIndex := 9, descriptorIndex := 10, attributes := #[] }, { accessFlags := 8, nameIndex := 261, descriptorIndex := 262, attributes := #[] }, { accessFlags := 9, nameIndex := 117, descriptorIndex := 122, attributes := #[] }, { accessFlags := 9, nameIndex := 117, descriptorIndex := 118, attributes := #[] }] 48 6 #[] #[{ accessFlags := 26, nameIndex := 61, descriptorIndex := 62, attributes := #[] }, { accessFlags := 26, nameIndex := 65, descriptorIndex := 62, attributes := #[] }, { accessFlags := 24, nameIndex := 430, descriptorIndex := 62, attributes := #[] }, { accessFlags := 4120, nameIndex := 46, descriptorIndex := 47, attributes := #[] }])
  fields := #[{ name := "HI_BYTE_SHIFT", type := .int, accessFlags := 26, slot := 0, constantValue := 0 }, { name := "LO_BYTE_SHIFT", type := .int, accessFlags := 26, slot := 1, constantValue := 0 }, { name := "MAX_LENGTH", type := .int, accessFlags := 24, slot := 2, constantValue := 0 }, { name := "$assertionsDisabled", type := .boolean, accessFlags := 4120, slot := 3, constantValue := 0 }]
  methods := #[k8m0, k8m1, k8m2, k8m3]
  instanceTypes := #[]
  staticTypes := #[.int, .int, .int, .boolean]
  resolved := Array.replicate 635 none
  statics := none }

def pool9 : Array CpInfo := pool [(4, .class_ 6), (1, u "java/lang/Object"), (0, u "<init>"), (0, u "()V"), (5, .class_ 16), (1, u "java/lang/StringLatin1"), (21, .methodref 39 40), (0, .class_ 41), (0, .nameAndType 42 43), (0, u "java/lang/Math"), (0, u "min"), (0, u "(II)I"), (44, .methodref 14 89), (0, .nameAndType 90 91), (0, u "canEncode"), (0, u "(I)Z"), (0, .methodref 39 93), (0, .nameAndType 94 43), (0, u "max"), (0, .methodref 14 96), (0, .nameAndType 97 98), (0, u "indexOfChar"), (0, u "([BIII)I"), (2, u "indexOf"), (3, u "(C)Z"), (15, u "$assertionsDisabled"), (0, u "Z"), (98, .class_ 223), (1, u "java/lang/StringLatin1$LinesSpliterator"), (156, u "toBytes"), (1, u "(C)[B"), (7, .class_ 391), (0, u "java/lang/StringLatin1$CharsSpliterator")] 3

def k9m0 : Method := { name := "<init>", desc := "()V", sig := { parameters := [], returnType := none }, accessFlags := 0, code := none }
def k9c1 : Code := { maxStack := 2, maxLocals := 1, code := jdk_43_method_3_code, exceptionTable := #[], attributes := #[] }
def k9m1 : Method := { name := "canEncode", desc := "(C)Z", sig := { parameters := [.char], returnType := some .boolean }, accessFlags := 9, code := some k9c1 }
def k9c2 : Code := { maxStack := 2, maxLocals := 1, code := jdk_43_method_4_code, exceptionTable := #[], attributes := #[] }
def k9m2 : Method := { name := "canEncode", desc := "(I)Z", sig := { parameters := [.int], returnType := some .boolean }, accessFlags := 9, code := some k9c2 }
def k9c3 : Code := { maxStack := 4, maxLocals := 4, code := jdk_43_method_22_code, exceptionTable := #[], attributes := #[] }
def k9m3 : Method := { name := "indexOf", desc := "([BIII)I", sig := { parameters := [(.array .byte), .int, .int, .int], returnType := some .int }, accessFlags := 9, code := some k9c3 }
def k9c4 : Code := { maxStack := 2, maxLocals := 6, code := jdk_43_method_23_code, exceptionTable := #[], attributes := #[] }
def k9m4 : Method := { name := "indexOfChar", desc := "([BIII)I", sig := { parameters := [(.array .byte), .int, .int, .int], returnType := some .int }, accessFlags := 10, code := some k9c4 }
def k9c5 : Code := { maxStack := 4, maxLocals := 1, code := jdk_43_method_46_code, exceptionTable := #[], attributes := #[] }
def k9m5 : Method := { name := "toBytes", desc := "(C)[B", sig := { parameters := [.char], returnType := some (.array .byte) }, accessFlags := 9, code := some k9c5 }
/-- java/lang/StringLatin1 -/
def k9 : Class := { plain "java/lang/StringLatin1" (some 0) with
  accessFlags := 48
  interfaces := #[]
  cf := some (fileOf pool9 14 #[.nestMembers #[390, 221]] #[{ accessFlags := 0, nameIndex := 7, descriptorIndex := 8, attributes := #[] }, { accessFlags := 9, nameIndex := 90, descriptorIndex := 105, attributes := #[] }, { accessFlags := 9, nameIndex := 90, descriptorIndex := 91, attributes := #[] }, { accessFlags := 9, nameIndex := 101, descriptorIndex := 98, attributes := #[] }, { accessFlags := 10, nameIndex := 97, descriptorIndex := 98, attributes := #[] }, { accessFlags := 9, nameIndex := 380, descriptorIndex := 382, attributes := #[] }] 48 4 #[] #[{ accessFlags := 4120, nameIndex := 121, descriptorIndex := 122, attributes := #[] }])
  fields := #[{ name := "$assertionsDisabled", type := .boolean, accessFlags := 4120, slot := 0, constantValue := 0 }]
  methods := #[k9m0, k9m1, k9m2, k9m3, k9m4, k9m5]
  instanceTypes := #[]
  staticTypes := #[.boolean]
  resolved := Array.replicate 395 none
  statics := none }

def pool10 : Array CpInfo := pool [(1, .methodref 2 3), (0, .class_ 4), (0, .nameAndType 5 6), (0, u "com/example/amendatory/amendatory/ProvisionName"), (0, u "<init>"), (0, u "(Ljava/lang/String;Ljava/lang/String;Ljava/lang/String;)V"), (0, .methodref 8 9), (0, .class_ 10), (0, .nameAndType 5 11), (0, u "java/lang/Object"), (0, u "()V"), (0, .fieldref 2 13), (0, .nameAndType 14 15), (0, u "word"), (0, u "Ljava/lang/String;"), (0, .fieldref 2 17), (0, .nameAndType 18 15), (0, u "number"), (0, .fieldref 2 20), (0, .nameAndType 21 15), (0, u "paragraph"), (2, u "(Ljava/lang/String;Ljava/lang/String;)V"), (0, .methodref 26 27), (0, .class_ 28), (0, .nameAndType 29 30), (0, u "java/lang/String"), (0, u "indexOf"), (0, u "(I)I"), (8, u "(Ljava/lang/String;)Lcom/example/amendatory/amendatory/ProvisionName;"), (4, u "isSection"), (0, u "()Z")] 19

def k10c0 : Code := { maxStack := 4, maxLocals := 3, code := prog_70_method_1_code, exceptionTable := #[], attributes := #[] }
def k10m0 : Method := { name := "<init>", desc := "(Ljava/lang/String;Ljava/lang/String;)V", sig := { parameters := [(.object "java/lang/String"), (.object "java/lang/String")], returnType := none }, accessFlags := 0, code := some k10c0 }
def k10c1 : Code := { maxStack := 2, maxLocals := 4, code := prog_70_method_2_code, exceptionTable := #[], attributes := #[] }
def k10m1 : Method := { name := "<init>", desc := "(Ljava/lang/String;Ljava/lang/String;Ljava/lang/String;)V", sig := { parameters := [(.object "java/lang/String"), (.object "java/lang/String"), (.object "java/lang/String")], returnType := none }, accessFlags := 2, code := some k10c1 }
def k10c2 : Code := { maxStack := 5, maxLocals := 2, code := prog_70_method_3_code, exceptionTable := #[], attributes := #[] }
def k10m2 : Method := { name := "paragraph", desc := "(Ljava/lang/String;)Lcom/example/amendatory/amendatory/ProvisionName;", sig := { parameters := [(.object "java/lang/String")], returnType := some (.object "com/example/amendatory/amendatory/ProvisionName") }, accessFlags := 0, code := some k10c2 }
def k10c3 : Code := { maxStack := 2, maxLocals := 1, code := prog_70_method_7_code, exceptionTable := #[], attributes := #[] }
def k10m3 : Method := { name := "isSection", desc := "()Z", sig := { parameters := [], returnType := some .boolean }, accessFlags := 0, code := some k10c3 }
/-- com/example/amendatory/amendatory/ProvisionName -/
def k10 : Class := { plain "com/example/amendatory/amendatory/ProvisionName" (some 0) with
  accessFlags := 48
  interfaces := #[]
  cf := some (fileOf pool10 2 #[] #[{ accessFlags := 0, nameIndex := 5, descriptorIndex := 24, attributes := #[] }, { accessFlags := 2, nameIndex := 5, descriptorIndex := 6, attributes := #[] }, { accessFlags := 0, nameIndex := 21, descriptorIndex := 39, attributes := #[] }, { accessFlags := 0, nameIndex := 44, descriptorIndex := 45, attributes := #[] }] 48 8 #[] #[{ accessFlags := 18, nameIndex := 14, descriptorIndex := 15, attributes := #[] }, { accessFlags := 18, nameIndex := 18, descriptorIndex := 15, attributes := #[] }, { accessFlags := 18, nameIndex := 21, descriptorIndex := 15, attributes := #[] }])
  fields := #[{ name := "word", type := (.object "java/lang/String"), accessFlags := 18, slot := 0, constantValue := 0 }, { name := "number", type := (.object "java/lang/String"), accessFlags := 18, slot := 1, constantValue := 0 }, { name := "paragraph", type := (.object "java/lang/String"), accessFlags := 18, slot := 2, constantValue := 0 }]
  methods := #[k10m0, k10m1, k10m2, k10m3]
  instanceTypes := #[(.object "java/lang/String"), (.object "java/lang/String"), (.object "java/lang/String")]
  staticTypes := #[]
  resolved := Array.replicate 65 none
  statics := none }

def pool11 : Array CpInfo := pool [(1, .class_ 2), (0, u "java/lang/Math"), (1, .class_ 6), (1, u "java/lang/Object"), (0, u "<init>"), (0, u "()V"), (89, .class_ 100), (1, u "java/lang/Math$RandomNumberGeneratorHolder"), (71, u "negativeZeroFloatBits"), (0, u "J"), (2, u "negativeZeroDoubleBits"), (21, u "max"), (2, u "min"), (43, u "$assertionsDisabled"), (0, u "Z"), (88, u "(II)I"), (2, u "twoToTheDoubleScaleDown"), (0, u "D"), (4, u "twoToTheDoubleScaleUp"), (9, u "E"), (3, u "PI"), (2, u "TAU"), (2, u "DEGREES_TO_RADIANS"), (0, u "RADIANS_TO_DEGREES")] 94

def k11m0 : Method := { name := "<init>", desc := "()V", sig := { parameters := [], returnType := none }, accessFlags := 2, code := none }
def k11c1 : Code := { maxStack := 2, maxLocals := 2, code := jdk_29_method_65_code, exceptionTable := #[], attributes := #[] }
def k11m1 : Method := { name := "max", desc := "(II)I", sig := { parameters := [.int, .int], returnType := some .int }, accessFlags := 9, code := some k11c1 }
def k11c2 : Code := { maxStack := 2, maxLocals := 2, code := jdk_29_method_69_code, exceptionTable := #[], attributes := #[] }
def k11m2 : Method := { name := "min", desc := "(II)I", sig := { parameters := [.int, .int], returnType := some .int }, accessFlags := 9, code := some k11c2 }
/-- java/lang/Math -/
def k11 : Class := { plain "java/lang/Math" (some 0) with
  accessFlags := 49
  interfaces := #[]
  cf := some (fileOf pool11 1 #[.nestMembers #[98]] #[{ accessFlags := 2, nameIndex := 7, descriptorIndex := 8, attributes := #[] }, { accessFlags := 9, nameIndex := 198, descriptorIndex := 335, attributes := #[] }, { accessFlags := 9, nameIndex := 201, descriptorIndex := 335, attributes := #[] }] 49 4 #[] #[{ accessFlags := 25, nameIndex := 354, descriptorIndex := 339, attributes := #[] }, { accessFlags := 25, nameIndex := 358, descriptorIndex := 339, attributes := #[] }, { accessFlags := 25, nameIndex := 361, descriptorIndex := 339, attributes := #[] }, { accessFlags := 26, nameIndex := 364, descriptorIndex := 339, attributes := #[] }, { accessFlags := 26, nameIndex := 365, descriptorIndex := 339, attributes := #[] }, { accessFlags := 26, nameIndex := 172, descriptorIndex := 173, attributes := #[] }, { accessFlags := 26, nameIndex := 176, descriptorIndex := 173, attributes := #[] }, { accessFlags := 8, nameIndex := 344, descriptorIndex := 339, attributes := #[] }, { accessFlags := 8, nameIndex := 338, descriptorIndex := 339, attributes := #[] }, { accessFlags := 4120, nameIndex := 245, descriptorIndex := 246, attributes := #[] }])
  fields := #[{ name := "E", type := .double, accessFlags := 25, slot := 0, constantValue := 0 }, { name := "PI", type := .double, accessFlags := 25, slot := 1, constantValue := 0 }, { name := "TAU", type := .double, accessFlags := 25, slot := 2, constantValue := 0 }, { name := "DEGREES_TO_RADIANS", type := .double, accessFlags := 26, slot := 3, constantValue := 0 }, { name := "RADIANS_TO_DEGREES", type := .double, accessFlags := 26, slot := 4, constantValue := 0 }, { name := "negativeZeroFloatBits", type := .long, accessFlags := 26, slot := 5, constantValue := 0 }, { name := "negativeZeroDoubleBits", type := .long, accessFlags := 26, slot := 6, constantValue := 0 }, { name := "twoToTheDoubleScaleUp", type := .double, accessFlags := 8, slot := 7, constantValue := 0 }, { name := "twoToTheDoubleScaleDown", type := .double, accessFlags := 8, slot := 8, constantValue := 0 }, { name := "$assertionsDisabled", type := .boolean, accessFlags := 4120, slot := 9, constantValue := 0 }]
  methods := #[k11m0, k11m1, k11m2]
  instanceTypes := #[]
  staticTypes := #[.double, .double, .double, .double, .double, .long, .long, .double, .double, .boolean]
  resolved := Array.replicate 460 none
  statics := none }

def pool12 : Array CpInfo := pool [(2, .class_ 4), (1, u "java/lang/Object"), (0, u "<init>"), (0, u "()V"), (17, .class_ 26), (1, u "jdk/internal/util/Preconditions"), (28, .class_ 56), (0, u "jdk/internal/util/Preconditions$4"), (57, .class_ 115), (0, u "jdk/internal/util/Preconditions$1"), (7, u "SIOOBE_FORMATTER"), (0, u "Ljava/util/function/BiFunction;"), (0, .class_ 126), (0, u "jdk/internal/util/Preconditions$2"), (3, u "AIOOBE_FORMATTER"), (0, .class_ 132), (0, u "jdk/internal/util/Preconditions$3"), (3, u "IOOBE_FORMATTER")] 57

def k12m0 : Method := { name := "<init>", desc := "()V", sig := { parameters := [], returnType := none }, accessFlags := 1, code := none }
/-- jdk/internal/util/Preconditions -/
def k12 : Class := { plain "jdk/internal/util/Preconditions" (some 0) with
  accessFlags := 33
  interfaces := #[]
  cf := some (fileOf pool12 24 #[.nestMembers #[55, 131, 125, 114]] #[{ accessFlags := 1, nameIndex := 5, descriptorIndex := 6, attributes := #[] }] 33 2 #[] #[{ accessFlags := 25, nameIndex := 123, descriptorIndex := 124, attributes := #[] }, { accessFlags := 25, nameIndex := 130, descriptorIndex := 124, attributes := #[] }, { accessFlags := 25, nameIndex := 136, descriptorIndex := 124, attributes := #[] }])
  fields := #[{ name := "SIOOBE_FORMATTER", type := (.object "java/util/function/BiFunction"), accessFlags := 25, slot := 0, constantValue := 0 }, { name := "AIOOBE_FORMATTER", type := (.object "java/util/function/BiFunction"), accessFlags := 25, slot := 1, constantValue := 0 }, { name := "IOOBE_FORMATTER", type := (.object "java/util/function/BiFunction"), accessFlags := 25, slot := 2, constantValue := 0 }]
  methods := #[k12m0]
  instanceTypes := #[]
  staticTypes := #[(.object "java/util/function/BiFunction"), (.object "java/util/function/BiFunction"), (.object "java/util/function/BiFunction")]
  resolved := Array.replicate 194 none
  statics := some 1 }

def pool13 : Array CpInfo := pool [(9, u "<init>"), (6, .class_ 18), (1, u "java/lang/Object"), (0, u "()V"), (1, .class_ 23), (1, u "jdk/internal/util/ArraysSupport"), (0, u "LOG2_ARRAY_LONG_INDEX_SCALE"), (0, u "I"), (2, u "U"), (0, u "Ljdk/internal/misc/Unsafe;"), (8, u "BIG_ENDIAN"), (0, u "Z"), (8, u "LOG2_BYTE_BIT_SIZE"), (4, u "LOG2_ARRAY_INT_INDEX_SCALE"), (54, u "JLA"), (0, u "Ljdk/internal/access/JavaLangAccess;"), (11, u "LOG2_ARRAY_BOOLEAN_INDEX_SCALE"), (9, u "LOG2_ARRAY_BYTE_INDEX_SCALE"), (5, u "LOG2_ARRAY_CHAR_INDEX_SCALE"), (5, u "LOG2_ARRAY_SHORT_INDEX_SCALE"), (18, u "LOG2_ARRAY_FLOAT_INDEX_SCALE"), (24, u "LOG2_ARRAY_DOUBLE_INDEX_SCALE"), (89, u "T_BOOLEAN"), (2, u "T_CHAR"), (1, u "T_FLOAT"), (1, u "T_DOUBLE"), (1, u "T_BYTE"), (1, u "T_SHORT"), (1, u "T_INT"), (1, u "T_LONG"), (1, u "SOFT_MAX_ARRAY_LENGTH")] 83

def k13m0 : Method := { name := "<init>", desc := "()V", sig := { parameters := [], returnType := none }, accessFlags := 2, code := none }
/-- jdk/internal/util/ArraysSupport -/
def k13 : Class := { plain "jdk/internal/util/ArraysSupport" (some 0) with
  accessFlags := 33
  interfaces := #[]
  cf := some (fileOf pool13 21 #[] #[{ accessFlags := 2, nameIndex := 9, descriptorIndex := 19, attributes := #[] }] 33 16 #[] #[{ accessFlags := 24, nameIndex := 28, descriptorIndex := 29, attributes := #[] }, { accessFlags := 26, nameIndex := 38, descriptorIndex := 39, attributes := #[] }, { accessFlags := 25, nameIndex := 121, descriptorIndex := 25, attributes := #[] }, { accessFlags := 25, nameIndex := 131, descriptorIndex := 25, attributes := #[] }, { accessFlags := 25, nameIndex := 137, descriptorIndex := 25, attributes := #[] }, { accessFlags := 25, nameIndex := 143, descriptorIndex := 25, attributes := #[] }, { accessFlags := 25, nameIndex := 53, descriptorIndex := 25, attributes := #[] }, { accessFlags := 25, nameIndex := 24, descriptorIndex := 25, attributes := #[] }, { accessFlags := 25, nameIndex := 162, descriptorIndex := 25, attributes := #[] }, { accessFlags := 25, nameIndex := 187, descriptorIndex := 25, attributes := #[] }, { accessFlags := 26, nameIndex := 48, descriptorIndex := 25, attributes := #[] }, { accessFlags := 25, nameIndex := 277, descriptorIndex := 25, attributes := #[] }, { accessFlags := 25, nameIndex := 280, descriptorIndex := 25, attributes := #[] }, { accessFlags := 25, nameIndex := 282, descriptorIndex := 25, attributes := #[] }, { accessFlags := 25, nameIndex := 284, descriptorIndex := 25, attributes := #[] }, { accessFlags := 25, nameIndex := 286, descriptorIndex := 25, attributes := #[] }, { accessFlags := 25, nameIndex := 288, descriptorIndex := 25, attributes := #[] }, { accessFlags := 25, nameIndex := 290, descriptorIndex := 25, attributes := #[] }, { accessFlags := 25, nameIndex := 292, descriptorIndex := 25, attributes := #[] }, { accessFlags := 26, nameIndex := 108, descriptorIndex := 109, attributes := #[] }, { accessFlags := 25, nameIndex := 294, descriptorIndex := 25, attributes := #[] }])
  fields := #[{ name := "U", type := (.object "jdk/internal/misc/Unsafe"), accessFlags := 24, slot := 0, constantValue := 0 }, { name := "BIG_ENDIAN", type := .boolean, accessFlags := 26, slot := 1, constantValue := 0 }, { name := "LOG2_ARRAY_BOOLEAN_INDEX_SCALE", type := .int, accessFlags := 25, slot := 2, constantValue := 0 }, { name := "LOG2_ARRAY_BYTE_INDEX_SCALE", type := .int, accessFlags := 25, slot := 3, constantValue := 0 }, { name := "LOG2_ARRAY_CHAR_INDEX_SCALE", type := .int, accessFlags := 25, slot := 4, constantValue := 0 }, { name := "LOG2_ARRAY_SHORT_INDEX_SCALE", type := .int, accessFlags := 25, slot := 5, constantValue := 0 }, { name := "LOG2_ARRAY_INT_INDEX_SCALE", type := .int, accessFlags := 25, slot := 6, constantValue := 0 }, { name := "LOG2_ARRAY_LONG_INDEX_SCALE", type := .int, accessFlags := 25, slot := 7, constantValue := 0 }, { name := "LOG2_ARRAY_FLOAT_INDEX_SCALE", type := .int, accessFlags := 25, slot := 8, constantValue := 0 }, { name := "LOG2_ARRAY_DOUBLE_INDEX_SCALE", type := .int, accessFlags := 25, slot := 9, constantValue := 0 }, { name := "LOG2_BYTE_BIT_SIZE", type := .int, accessFlags := 26, slot := 10, constantValue := 0 }, { name := "T_BOOLEAN", type := .int, accessFlags := 25, slot := 11, constantValue := 0 }, { name := "T_CHAR", type := .int, accessFlags := 25, slot := 12, constantValue := 0 }, { name := "T_FLOAT", type := .int, accessFlags := 25, slot := 13, constantValue := 0 }, { name := "T_DOUBLE", type := .int, accessFlags := 25, slot := 14, constantValue := 0 }, { name := "T_BYTE", type := .int, accessFlags := 25, slot := 15, constantValue := 0 }, { name := "T_SHORT", type := .int, accessFlags := 25, slot := 16, constantValue := 0 }, { name := "T_INT", type := .int, accessFlags := 25, slot := 17, constantValue := 0 }, { name := "T_LONG", type := .int, accessFlags := 25, slot := 18, constantValue := 0 }, { name := "JLA", type := (.object "jdk/internal/access/JavaLangAccess"), accessFlags := 26, slot := 19, constantValue := 0 }, { name := "SOFT_MAX_ARRAY_LENGTH", type := .int, accessFlags := 25, slot := 20, constantValue := 0 }]
  methods := #[k13m0]
  instanceTypes := #[]
  staticTypes := #[(.object "jdk/internal/misc/Unsafe"), .boolean, .int, .int, .int, .int, .int, .int, .int, .int, .int, .int, .int, .int, .int, .int, .int, .int, .int, (.object "jdk/internal/access/JavaLangAccess"), .int]
  resolved := Array.replicate 378 none
  statics := none }

def pool14 : Array CpInfo := pool [(1, u "java/lang/Cloneable"), (0, .class_ 1), (0, u "java/lang/Object"), (0, .class_ 3)] 3

/-- java/lang/Cloneable -/
def k14 : Class := { plain "java/lang/Cloneable" (some 0) with
  accessFlags := 1537
  interfaces := #[]
  cf := some (fileOf pool14 2 #[] #[] 1537 4 #[] #[])
  fields := #[]
  methods := #[]
  instanceTypes := #[]
  staticTypes := #[]
  resolved := Array.replicate 8 none
  statics := none }

/-- the primitive byte -/
def k15 : Class := { plain "byte" none with kind := .primitive 'B', accessFlags := 0x411 }
/-- [B -/
def k16 : Class := { plain "[B" (some 0) with kind := .array 15 .byte, interfaces := #[14, 2], accessFlags := 1041 }

/-- the primitive char -/
def k17 : Class := { plain "char" none with kind := .primitive 'C', accessFlags := 0x411 }
/-- [C -/
def k18 : Class := { plain "[C" (some 0) with kind := .array 17 .char, interfaces := #[14, 2], accessFlags := 1041 }

/-- the primitive int -/
def k19 : Class := { plain "int" none with kind := .primitive 'I', accessFlags := 0x411 }
/-- [I -/
def k20 : Class := { plain "[I" (some 0) with kind := .array 19 .int, interfaces := #[14, 2], accessFlags := 1041 }

def heap : Heap := #[{ cls := 7, slots := #[.long 0, .int 1, .null, .int 0, .null, .int 0, .int 0], vm := .statics 7 },
  { cls := 12, slots := #[.null, .null, .null], vm := .statics 12 }]
def classes : Array Class := #[k0, k1, k2, k3, k4, k5, k6, k7, k8, k9, k10, k11, k12, k13, k14, k15, k16, k17, k18, k19, k20]
def interned : List (Array UInt16 × Addr) := []
def slotsUsed : Nat := 10
def theMethod : MethodId := ⟨1, 1⟩
def args0 : Array Value := #[.int 5, .int 7, .int 2, .int 1]
def aboutOver (below : List Frame) : State where
  vm := { classes := classes, interned := interned.toArray }
  heap := heap
  slotsUsed := slotsUsed
  threads := #[{ frames := .invoking theMethod args0 :: below }]
def below0 : List Frame := [.native { method := ⟨0, 0⟩, args := #[] }]
def about1 : State := aboutOver below0
def p0 : Program := .bare "" "" ""
def e0 : Env := launch0.env 0 0 0
theorem w_frames : about1.frames = Frame.invoking theMethod args0 :: below0 := rfl
set_option maxRecDepth 65536 in
theorem w_args : argsFit about1.vm theMethod args0 = true := by decide +kernel
set_option maxRecDepth 65536 in
theorem w_heap : heapFits about1 = true := by decide +kernel
set_option maxRecDepth 65536 in
theorem w_runnable : about1.curStatus? = some .runnable := by decide +kernel
set_option maxRecDepth 65536 in
theorem w_alone : about1.alone = true := by decide +kernel
set_option maxRecDepth 65536 in
theorem w_named : about1.methodNamed? x = some theMethod := by decide +kernel
set_option maxRecDepth 65536 in
theorem w_hears : about1.hears theMethod below0 = true := by decide +kernel
set_option maxRecDepth 65536 in
theorem w_ripe : about1.ripe theMethod args0 below0 = true := by decide +kernel
theorem w_running : about1.status = .running := rfl
set_option maxRecDepth 65536 in
theorem w_room : about1.hasRoom e0.platform room_1 = true :=
  launch0.hasRoom_least _ room_1 (by decide +kernel) (by decide +kernel) (by decide +kernel) (by decide +kernel) (by decide +kernel) (by decide +kernel)
theorem allAtoms_all (ts : List Jvm.Cond) (a : Array Jvm.Value) (st : Jvm.State) : (allAtoms ts).before a st = ts.all (fun c => c.before a st) := by
  induction ts with
  | nil => rfl
  | cons c t ih =>
    show (Jvm.Cond.and c (allAtoms t)).before a st = _
    rw [Jvm.Cond.before_and, ih, List.all_cons]
def words1 : List Jvm.Cond := Jvm.Cond.code x code maxLocals ret :: tables_1
/-- a 'code' word, met by the world's own term for the bytes: nothing is compared byte by byte -/
theorem code_word {y : MethodName} {bytes : ByteArray} {mx : Nat} {rt : Option FieldType} {a : Array Value} {s : State} {m : MethodId} {meth : Method} {c : Code} (h1 : s.methodNamed? y = some m) (h2 : s.vm.method? m = some meth) (h3 : meth.code = some c) (h4 : c.code = bytes)
    (h5 : (c.maxLocals == mx && c.exceptionTable.isEmpty && decide (c.maxStack ≤ mostOperands) && decide (meth.sig.returnType = rt) && !meth.locks && decide (parseMethodDescriptor y.desc = some meth.sig)) = true) : (Jvm.Cond.code y bytes mx rt).before a s = true := by
  simp only [Bool.and_eq_true, beq_iff_eq, Bool.not_eq_true', decide_eq_true_eq] at h5
  obtain ⟨⟨⟨⟨⟨g1, g2⟩, g3⟩, g4⟩, g5⟩, g6⟩ := h5
  simp [Cond.before, Cond.holds, Cond.value, h1, h2, h3, h4, g1, g2, g3, g4, g5, g6]
def isCode : Jvm.Cond → Bool
  | .code _ _ _ _ => true
  | _ => false
theorem all_split {L : List Jvm.Cond} {P : Jvm.Cond → Bool} (h1 : L.all (fun c => isCode c || P c) = true) (h2 : ∀ c ∈ L.filter isCode, P c = true) : L.all P = true := by
  refine List.all_eq_true.mpr fun c hc => ?_
  have h := List.all_eq_true.mp h1 c hc
  rcases Bool.eq_false_or_eq_true (isCode c) with hi | hi
  · exact h2 c (List.mem_filter.mpr ⟨hc, hi⟩)
  · simpa [hi] using h
set_option maxRecDepth 65536 in
theorem w_c0 : (Jvm.Cond.code x code maxLocals ret).before args0 about1 = true := code_word (m := ⟨1, 1⟩) (meth := k1m1) (c := k1c1) (by decide +kernel) rfl rfl rfl (by decide +kernel)
set_option maxRecDepth 65536 in
theorem w_c1 : (Jvm.Cond.code ({ cls := "com/example/amendatory/amendatory/ProvisionNameIsSectionPinLaw", name := "pick", desc := "(III)C" } : Jvm.MethodName) method_3_code (3 : Nat) (Option.some Jvm.ClassFile.FieldType.char)).before args0 about1 = true := code_word (m := ⟨1, 2⟩) (meth := k1m2) (c := k1c2) (by decide +kernel) rfl rfl rfl (by decide +kernel)
set_option maxRecDepth 65536 in
theorem w_c2 : (Jvm.Cond.code ({ cls := "com/example/amendatory/amendatory/ProvisionNameIsSectionPinLaw", name := "make", desc := "(ICCCC)Ljava/lang/String;" } : Jvm.MethodName) method_4_code (5 : Nat) (Option.some (Jvm.ClassFile.FieldType.object "java/lang/String"))).before args0 about1 = true := code_word (m := ⟨1, 3⟩) (meth := k1m3) (c := k1c3) (by decide +kernel) rfl rfl rfl (by decide +kernel)
set_option maxRecDepth 65536 in
theorem w_c3 : (Jvm.Cond.code ({ cls := "java/lang/String", name := "<init>", desc := "([C)V" } : Jvm.MethodName) jdk_42_method_3_code (2 : Nat) (Option.none : Option Jvm.ClassFile.FieldType)).before args0 about1 = true := code_word (m := ⟨7, 1⟩) (meth := k7m1) (c := k7c1) (by decide +kernel) rfl rfl rfl (by decide +kernel)
set_option maxRecDepth 65536 in
theorem w_c4 : (Jvm.Cond.code ({ cls := "java/lang/String", name := "<init>", desc := "([CIILjava/lang/Void;)V" } : Jvm.MethodName) jdk_42_method_149_code (6 : Nat) (Option.none : Option Jvm.ClassFile.FieldType)).before args0 about1 = true := code_word (m := ⟨7, 6⟩) (meth := k7m6) (c := k7c6) (by decide +kernel) rfl rfl rfl (by decide +kernel)
set_option maxRecDepth 65536 in
theorem w_c5 : (Jvm.Cond.code ({ cls := "java/lang/Object", name := "<init>", desc := "()V" } : Jvm.MethodName) object_method_1_code (1 : Nat) (Option.none : Option Jvm.ClassFile.FieldType)).before args0 about1 = true := code_word (m := ⟨0, 0⟩) (meth := k0m0) (c := k0c0) (by decide +kernel) rfl rfl rfl (by decide +kernel)
set_option maxRecDepth 65536 in
theorem w_c6 : (Jvm.Cond.code ({ cls := "java/lang/StringUTF16", name := "compress", desc := "([CII)[B" } : Jvm.MethodName) jdk_52_method_16_code (6 : Nat) (Option.some (Jvm.ClassFile.FieldType.array Jvm.ClassFile.FieldType.byte))).before args0 about1 = true := code_word (m := ⟨8, 2⟩) (meth := k8m2) (c := k8c2) (by decide +kernel) rfl rfl rfl (by decide +kernel)
set_option maxRecDepth 65536 in
theorem w_c7 : (Jvm.Cond.code ({ cls := "java/lang/StringUTF16", name := "compress", desc := "([CI[BII)I" } : Jvm.MethodName) jdk_52_method_21_code (7 : Nat) (Option.some Jvm.ClassFile.FieldType.int)).before args0 about1 = true := code_word (m := ⟨8, 3⟩) (meth := k8m3) (c := k8c3) (by decide +kernel) rfl rfl rfl (by decide +kernel)
set_option maxRecDepth 65536 in
theorem w_c8 : (Jvm.Cond.code ({ cls := "java/lang/StringUTF16", name := "coderFromArrayLen", desc := "([BI)B" } : Jvm.MethodName) jdk_52_method_15_code (2 : Nat) (Option.some Jvm.ClassFile.FieldType.byte)).before args0 about1 = true := code_word (m := ⟨8, 1⟩) (meth := k8m1) (c := k8c1) (by decide +kernel) rfl rfl rfl (by decide +kernel)
set_option maxRecDepth 65536 in
theorem w_c9 : (Jvm.Cond.code ({ cls := "java/lang/String", name := "valueOf", desc := "(C)Ljava/lang/String;" } : Jvm.MethodName) jdk_42_method_139_code (1 : Nat) (Option.some (Jvm.ClassFile.FieldType.object "java/lang/String"))).before args0 about1 = true := code_word (m := ⟨7, 5⟩) (meth := k7m5) (c := k7c5) (by decide +kernel) rfl rfl rfl (by decide +kernel)
set_option maxRecDepth 65536 in
theorem w_c10 : (Jvm.Cond.code ({ cls := "java/lang/StringLatin1", name := "canEncode", desc := "(C)Z" } : Jvm.MethodName) jdk_43_method_3_code (1 : Nat) (Option.some Jvm.ClassFile.FieldType.boolean)).before args0 about1 = true := code_word (m := ⟨9, 1⟩) (meth := k9m1) (c := k9c1) (by decide +kernel) rfl rfl rfl (by decide +kernel)
set_option maxRecDepth 65536 in
theorem w_c11 : (Jvm.Cond.code ({ cls := "java/lang/StringLatin1", name := "toBytes", desc := "(C)[B" } : Jvm.MethodName) jdk_43_method_46_code (1 : Nat) (Option.some (Jvm.ClassFile.FieldType.array Jvm.ClassFile.FieldType.byte))).before args0 about1 = true := code_word (m := ⟨9, 5⟩) (meth := k9m5) (c := k9c5) (by decide +kernel) rfl rfl rfl (by decide +kernel)
set_option maxRecDepth 65536 in
theorem w_c12 : (Jvm.Cond.code ({ cls := "java/lang/String", name := "<init>", desc := "([BB)V" } : Jvm.MethodName) jdk_42_method_151_code (3 : Nat) (Option.none : Option Jvm.ClassFile.FieldType)).before args0 about1 = true := code_word (m := ⟨7, 7⟩) (meth := k7m7) (c := k7c7) (by decide +kernel) rfl rfl rfl (by decide +kernel)
set_option maxRecDepth 65536 in
theorem w_c13 : (Jvm.Cond.code ({ cls := "com/example/amendatory/amendatory/ProvisionName", name := "<init>", desc := "(Ljava/lang/String;Ljava/lang/String;)V" } : Jvm.MethodName) prog_70_method_1_code (3 : Nat) (Option.none : Option Jvm.ClassFile.FieldType)).before args0 about1 = true := code_word (m := ⟨10, 0⟩) (meth := k10m0) (c := k10c0) (by decide +kernel) rfl rfl rfl (by decide +kernel)
set_option maxRecDepth 65536 in
theorem w_c14 : (Jvm.Cond.code ({ cls := "com/example/amendatory/amendatory/ProvisionName", name := "<init>", desc := "(Ljava/lang/String;Ljava/lang/String;Ljava/lang/String;)V" } : Jvm.MethodName) prog_70_method_2_code (4 : Nat) (Option.none : Option Jvm.ClassFile.FieldType)).before args0 about1 = true := code_word (m := ⟨10, 1⟩) (meth := k10m1) (c := k10c1) (by decide +kernel) rfl rfl rfl (by decide +kernel)
set_option maxRecDepth 65536 in
theorem w_c15 : (Jvm.Cond.code ({ cls := "com/example/amendatory/amendatory/ProvisionName", name := "paragraph", desc := "(Ljava/lang/String;)Lcom/example/amendatory/amendatory/ProvisionName;" } : Jvm.MethodName) prog_70_method_3_code (2 : Nat) (Option.some (Jvm.ClassFile.FieldType.object "com/example/amendatory/amendatory/ProvisionName"))).before args0 about1 = true := code_word (m := ⟨10, 2⟩) (meth := k10m2) (c := k10c2) (by decide +kernel) rfl rfl rfl (by decide +kernel)
set_option maxRecDepth 65536 in
theorem w_c16 : (Jvm.Cond.code ({ cls := "com/example/amendatory/amendatory/ProvisionName", name := "isSection", desc := "()Z" } : Jvm.MethodName) prog_70_method_7_code (1 : Nat) (Option.some Jvm.ClassFile.FieldType.boolean)).before args0 about1 = true := code_word (m := ⟨10, 3⟩) (meth := k10m3) (c := k10c3) (by decide +kernel) rfl rfl rfl (by decide +kernel)
set_option maxRecDepth 65536 in
theorem w_c17 : (Jvm.Cond.code ({ cls := "java/lang/String", name := "indexOf", desc := "(I)I" } : Jvm.MethodName) jdk_42_method_79_code (2 : Nat) (Option.some Jvm.ClassFile.FieldType.int)).before args0 about1 = true := code_word (m := ⟨7, 3⟩) (meth := k7m3) (c := k7c3) (by decide +kernel) rfl rfl rfl (by decide +kernel)
set_option maxRecDepth 65536 in
theorem w_c18 : (Jvm.Cond.code ({ cls := "java/lang/String", name := "indexOf", desc := "(II)I" } : Jvm.MethodName) jdk_42_method_80_code (3 : Nat) (Option.some Jvm.ClassFile.FieldType.int)).before args0 about1 = true := code_word (m := ⟨7, 4⟩) (meth := k7m4) (c := k7c4) (by decide +kernel) rfl rfl rfl (by decide +kernel)
set_option maxRecDepth 65536 in
theorem w_c19 : (Jvm.Cond.code ({ cls := "java/lang/String", name := "isLatin1", desc := "()Z" } : Jvm.MethodName) jdk_42_method_154_code (1 : Nat) (Option.some Jvm.ClassFile.FieldType.boolean)).before args0 about1 = true := code_word (m := ⟨7, 9⟩) (meth := k7m9) (c := k7c9) (by decide +kernel) rfl rfl rfl (by decide +kernel)
set_option maxRecDepth 65536 in
theorem w_c20 : (Jvm.Cond.code ({ cls := "java/lang/String", name := "length", desc := "()I" } : Jvm.MethodName) jdk_42_method_54_code (1 : Nat) (Option.some Jvm.ClassFile.FieldType.int)).before args0 about1 = true := code_word (m := ⟨7, 2⟩) (meth := k7m2) (c := k7c2) (by decide +kernel) rfl rfl rfl (by decide +kernel)
set_option maxRecDepth 65536 in
theorem w_c21 : (Jvm.Cond.code ({ cls := "java/lang/String", name := "coder", desc := "()B" } : Jvm.MethodName) jdk_42_method_152_code (1 : Nat) (Option.some Jvm.ClassFile.FieldType.byte)).before args0 about1 = true := code_word (m := ⟨7, 8⟩) (meth := k7m8) (c := k7c8) (by decide +kernel) rfl rfl rfl (by decide +kernel)
set_option maxRecDepth 65536 in
theorem w_c22 : (Jvm.Cond.code ({ cls := "java/lang/StringLatin1", name := "indexOf", desc := "([BIII)I" } : Jvm.MethodName) jdk_43_method_22_code (4 : Nat) (Option.some Jvm.ClassFile.FieldType.int)).before args0 about1 = true := code_word (m := ⟨9, 3⟩) (meth := k9m3) (c := k9c3) (by decide +kernel) rfl rfl rfl (by decide +kernel)
set_option maxRecDepth 65536 in
theorem w_c23 : (Jvm.Cond.code ({ cls := "java/lang/StringLatin1", name := "canEncode", desc := "(I)Z" } : Jvm.MethodName) jdk_43_method_4_code (1 : Nat) (Option.some Jvm.ClassFile.FieldType.boolean)).before args0 about1 = true := code_word (m := ⟨9, 2⟩) (meth := k9m2) (c := k9c2) (by decide +kernel) rfl rfl rfl (by decide +kernel)
set_option maxRecDepth 65536 in
theorem w_c24 : (Jvm.Cond.code ({ cls := "java/lang/Math", name := "max", desc := "(II)I" } : Jvm.MethodName) jdk_29_method_65_code (2 : Nat) (Option.some Jvm.ClassFile.FieldType.int)).before args0 about1 = true := code_word (m := ⟨11, 1⟩) (meth := k11m1) (c := k11c1) (by decide +kernel) rfl rfl rfl (by decide +kernel)
set_option maxRecDepth 65536 in
theorem w_c25 : (Jvm.Cond.code ({ cls := "java/lang/Math", name := "min", desc := "(II)I" } : Jvm.MethodName) jdk_29_method_69_code (2 : Nat) (Option.some Jvm.ClassFile.FieldType.int)).before args0 about1 = true := code_word (m := ⟨11, 2⟩) (meth := k11m2) (c := k11c2) (by decide +kernel) rfl rfl rfl (by decide +kernel)
set_option maxRecDepth 65536 in
theorem w_c26 : (Jvm.Cond.code ({ cls := "java/lang/StringLatin1", name := "indexOfChar", desc := "([BIII)I" } : Jvm.MethodName) jdk_43_method_23_code (6 : Nat) (Option.some Jvm.ClassFile.FieldType.int)).before args0 about1 = true := code_word (m := ⟨9, 4⟩) (meth := k9m4) (c := k9c4) (by decide +kernel) rfl rfl rfl (by decide +kernel)
def codes1 : List Jvm.Cond := [Jvm.Cond.code x code maxLocals ret, Jvm.Cond.code ({ cls := "com/example/amendatory/amendatory/ProvisionNameIsSectionPinLaw", name := "pick", desc := "(III)C" } : Jvm.MethodName) method_3_code (3 : Nat) (Option.some Jvm.ClassFile.FieldType.char), Jvm.Cond.code ({ cls := "com/example/amendatory/amendatory/ProvisionNameIsSectionPinLaw", name := "make", desc := "(ICCCC)Ljava/lang/String;" } : Jvm.MethodName) method_4_code (5 : Nat) (Option.some (Jvm.ClassFile.FieldType.object "java/lang/String")), Jvm.Cond.code ({ cls := "java/lang/String", name := "<init>", desc := "([C)V" } : Jvm.MethodName) jdk_42_method_3_code (2 : Nat) (Option.none : Option Jvm.ClassFile.FieldType), Jvm.Cond.code ({ cls := "java/lang/String", name := "<init>", desc := "([CIILjava/lang/Void;)V" } : Jvm.MethodName) jdk_42_method_149_code (6 : Nat) (Option.none : Option Jvm.ClassFile.FieldType), Jvm.Cond.code ({ cls := "java/lang/Object", name := "<init>", desc := "()V" } : Jvm.MethodName) object_method_1_code (1 : Nat) (Option.none : Option Jvm.ClassFile.FieldType), Jvm.Cond.code ({ cls := "java/lang/StringUTF16", name := "compress", desc := "([CII)[B" } : Jvm.MethodName) jdk_52_method_16_code (6 : Nat) (Option.some (Jvm.ClassFile.FieldType.array Jvm.ClassFile.FieldType.byte)), Jvm.Cond.code ({ cls := "java/lang/StringUTF16", name := "compress", desc := "([CI[BII)I" } : Jvm.MethodName) jdk_52_method_21_code (7 : Nat) (Option.some Jvm.ClassFile.FieldType.int), Jvm.Cond.code ({ cls := "java/lang/StringUTF16", name := "coderFromArrayLen", desc := "([BI)B" } : Jvm.MethodName) jdk_52_method_15_code (2 : Nat) (Option.some Jvm.ClassFile.FieldType.byte), Jvm.Cond.code ({ cls := "java/lang/String", name := "valueOf", desc := "(C)Ljava/lang/String;" } : Jvm.MethodName) jdk_42_method_139_code (1 : Nat) (Option.some (Jvm.ClassFile.FieldType.object "java/lang/String")), Jvm.Cond.code ({ cls := "java/lang/StringLatin1", name := "canEncode", desc := "(C)Z" } : Jvm.MethodName) jdk_43_method_3_code (1 : Nat) (Option.some Jvm.ClassFile.FieldType.boolean), Jvm.Cond.code ({ cls := "java/lang/StringLatin1", name := "toBytes", desc := "(C)[B" } : Jvm.MethodName) jdk_43_method_46_code (1 : Nat) (Option.some (Jvm.ClassFile.FieldType.array Jvm.ClassFile.FieldType.byte)), Jvm.Cond.code ({ cls := "java/lang/String", name := "<init>", desc := "([BB)V" } : Jvm.MethodName) jdk_42_method_151_code (3 : Nat) (Option.none : Option Jvm.ClassFile.FieldType), Jvm.Cond.code ({ cls := "com/example/amendatory/amendatory/ProvisionName", name := "<init>", desc := "(Ljava/lang/String;Ljava/lang/String;)V" } : Jvm.MethodName) prog_70_method_1_code (3 : Nat) (Option.none : Option Jvm.ClassFile.FieldType), Jvm.Cond.code ({ cls := "com/example/amendatory/amendatory/ProvisionName", name := "<init>", desc := "(Ljava/lang/String;Ljava/lang/String;Ljava/lang/String;)V" } : Jvm.MethodName) prog_70_method_2_code (4 : Nat) (Option.none : Option Jvm.ClassFile.FieldType), Jvm.Cond.code ({ cls := "com/example/amendatory/amendatory/ProvisionName", name := "paragraph", desc := "(Ljava/lang/String;)Lcom/example/amendatory/amendatory/ProvisionName;" } : Jvm.MethodName) prog_70_method_3_code (2 : Nat) (Option.some (Jvm.ClassFile.FieldType.object "com/example/amendatory/amendatory/ProvisionName")), Jvm.Cond.code ({ cls := "com/example/amendatory/amendatory/ProvisionName", name := "isSection", desc := "()Z" } : Jvm.MethodName) prog_70_method_7_code (1 : Nat) (Option.some Jvm.ClassFile.FieldType.boolean), Jvm.Cond.code ({ cls := "java/lang/String", name := "indexOf", desc := "(I)I" } : Jvm.MethodName) jdk_42_method_79_code (2 : Nat) (Option.some Jvm.ClassFile.FieldType.int), Jvm.Cond.code ({ cls := "java/lang/String", name := "indexOf", desc := "(II)I" } : Jvm.MethodName) jdk_42_method_80_code (3 : Nat) (Option.some Jvm.ClassFile.FieldType.int), Jvm.Cond.code ({ cls := "java/lang/String", name := "isLatin1", desc := "()Z" } : Jvm.MethodName) jdk_42_method_154_code (1 : Nat) (Option.some Jvm.ClassFile.FieldType.boolean), Jvm.Cond.code ({ cls := "java/lang/String", name := "length", desc := "()I" } : Jvm.MethodName) jdk_42_method_54_code (1 : Nat) (Option.some Jvm.ClassFile.FieldType.int), Jvm.Cond.code ({ cls := "java/lang/String", name := "coder", desc := "()B" } : Jvm.MethodName) jdk_42_method_152_code (1 : Nat) (Option.some Jvm.ClassFile.FieldType.byte), Jvm.Cond.code ({ cls := "java/lang/StringLatin1", name := "indexOf", desc := "([BIII)I" } : Jvm.MethodName) jdk_43_method_22_code (4 : Nat) (Option.some Jvm.ClassFile.FieldType.int), Jvm.Cond.code ({ cls := "java/lang/StringLatin1", name := "canEncode", desc := "(I)Z" } : Jvm.MethodName) jdk_43_method_4_code (1 : Nat) (Option.some Jvm.ClassFile.FieldType.boolean), Jvm.Cond.code ({ cls := "java/lang/Math", name := "max", desc := "(II)I" } : Jvm.MethodName) jdk_29_method_65_code (2 : Nat) (Option.some Jvm.ClassFile.FieldType.int), Jvm.Cond.code ({ cls := "java/lang/Math", name := "min", desc := "(II)I" } : Jvm.MethodName) jdk_29_method_69_code (2 : Nat) (Option.some Jvm.ClassFile.FieldType.int), Jvm.Cond.code ({ cls := "java/lang/StringLatin1", name := "indexOfChar", desc := "([BIII)I" } : Jvm.MethodName) jdk_43_method_23_code (6 : Nat) (Option.some Jvm.ClassFile.FieldType.int)]
set_option maxRecDepth 65536 in
theorem codes_eq : words1.filter isCode = codes1 := rfl
theorem w_codes : ∀ c ∈ words1.filter isCode, c.before args0 about1 = true := by
  rw [codes_eq]
  intro c hc
  simp only [codes1, List.mem_cons, List.not_mem_nil, or_false] at hc
  rcases hc with rfl | rfl | rfl | rfl | rfl | rfl | rfl | rfl | rfl | rfl | rfl | rfl | rfl | rfl | rfl | rfl | rfl | rfl | rfl | rfl | rfl | rfl | rfl | rfl | rfl | rfl | rfl
  · exact w_c0
  · exact w_c1
  · exact w_c2
  · exact w_c3
  · exact w_c4
  · exact w_c5
  · exact w_c6
  · exact w_c7
  · exact w_c8
  · exact w_c9
  · exact w_c10
  · exact w_c11
  · exact w_c12
  · exact w_c13
  · exact w_c14
  · exact w_c15
  · exact w_c16
  · exact w_c17
  · exact w_c18
  · exact w_c19
  · exact w_c20
  · exact w_c21
  · exact w_c22
  · exact w_c23
  · exact w_c24
  · exact w_c25
  · exact w_c26
set_option maxRecDepth 65536 in
theorem w_t1 : (words1.take 24).all (fun c => isCode c || c.before args0 about1) = true := by decide +kernel
set_option maxRecDepth 65536 in
theorem w_t2 : ((words1.drop 24).take 24).all (fun c => isCode c || c.before args0 about1) = true := by decide +kernel
set_option maxRecDepth 65536 in
theorem w_t3 : (((words1.drop 24).drop 24).take 24).all (fun c => isCode c || c.before args0 about1) = true := by decide +kernel
set_option maxRecDepth 65536 in
theorem w_t4 : ((((words1.drop 24).drop 24).drop 24).take 24).all (fun c => isCode c || c.before args0 about1) = true := by decide +kernel
set_option maxRecDepth 65536 in
theorem w_t5 : (((((words1.drop 24).drop 24).drop 24).drop 24).take 24).all (fun c => isCode c || c.before args0 about1) = true := by decide +kernel
set_option maxRecDepth 65536 in
theorem w_t6 : (((((words1.drop 24).drop 24).drop 24).drop 24).drop 24).all (fun c => isCode c || c.before args0 about1) = true := by decide +kernel
theorem w_tables : (allAtoms (Jvm.Cond.code x code maxLocals ret :: tables_1)).before args0 about1 = true := by
  rw [allAtoms_all]
  show words1.all (fun c => c.before args0 about1) = true
  refine all_split ?_ w_codes
  rw [← List.take_append_drop 24 words1, List.all_append, w_t1, ← List.take_append_drop 24 (words1.drop 24), List.all_append, w_t2, ← List.take_append_drop 24 ((words1.drop 24).drop 24), List.all_append, w_t3, ← List.take_append_drop 24 (((words1.drop 24).drop 24).drop 24), List.all_append, w_t4, ← List.take_append_drop 24 ((((words1.drop 24).drop 24).drop 24).drop 24), List.all_append, w_t5, w_t6]
  rfl
set_option maxRecDepth 65536 in
theorem w_rest : rest_1_c.before args0 about1 = true := by decide +kernel
set_option maxRecDepth 65536 in
theorem w_case : (Jvm.Cond.and given_1 narrow_1).before args0 about1 = true := by decide +kernel
set_option maxRecDepth 65536 in
theorem w_consts : constsHeld consts_1 about1 := Jvm.Lit.constsHeldB_iff.mp (by decide +kernel)
theorem w_applies : (headSpec (Jvm.Cond.code x code maxLocals ret :: tables_1) room_1).applies x e0.platform about1 = true :=
  (Spec.applies_iff w_frames).mpr ⟨w_running, w_runnable, w_alone, w_named, w_hears, w_ripe, w_room, w_tables⟩
theorem atStart : AtStart classFile x code maxLocals ret World_1 tables_1 room_1 Calls_1 rest_1 Pre_1 launch0 p0 e0 about1 theMethod args0 below0 :=
  ⟨lists_1, trivial, launch0.admits_env _ _ _, launch0.least_env, fairChoices_fair.cas, fairChoices_fair.clock, w_frames, w_args, w_heap, w_applies, ⟨w_consts, trivial⟩, w_rest, w_case⟩
end start1
theorem witness_1 : WitnessClaimed_1 := ⟨start1.p0, start1.e0, start1.about1, start1.theMethod, start1.args0, start1.below0, start1.atStart⟩
end Jvm.Pilot.@@N@@
