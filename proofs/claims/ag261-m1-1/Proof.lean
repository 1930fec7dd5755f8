import JvmDerived
import JvmDerived.Pilot.@@N@@Statement
import JvmDerived.Pilot.@@N@@Code
set_option linter.unusedVariables false
set_option linter.unusedSimpArgs false
/- laws to paste: Road.backV (cut by pick.py; bodies as the Statement names them) -/
namespace Jvm.Pilot.@@N@@
namespace StrChars
open Jvm Sem ClassFile Op Lib Jvm.Stand Jvm.Free.XT Jvm.Free.ALB Jvm.Free.JM Jvm.Free
open Jvm.Lib.Cold (StaticIs)
/-- a char array whose places are chars -/
def Ch (a : Addr) (A : Cell) (U : State) : Prop := Arr .char a A U ∧ Typed .char A
theorem Ch.mv {a : Addr} {A : Cell} {U U' : State} (h : Ch a A U) (hal : U.vm.Alike U'.vm) (hh : U'.heap = U.heap) : Ch a A U' := ⟨h.1.mv hal hh, h.2⟩
theorem Ch.keep {a : Addr} {A : Cell} {U U' : State} (h : Ch a A U) (hal : U.vm.Alike U'.vm) (hk : U'.heap[a]? = some A) : Ch a A U' := ⟨h.1.keep hal hk, h.2⟩
/-- what place i of a char[]'s cell holds -/
def cv (A : Cell) (i : Nat) : Int32 := match A.slots[i]? with | some (.int x) => x | _ => 0
theorem Ch.get {a : Addr} {A : Cell} {U : State} (h : Ch a A U) {i : Nat} (hi : i < A.slots.size) : A.slots[i]? = some (.int (cv A i)) := by
  have e := Array.getElem?_eq_getElem hi
  have f := h.2 i _ e
  unfold cv; rw [e]
  generalize A.slots[i] = v at f
  cases v <;> simp [fits] at f ⊢
/-- the byte that i2b leaves of a char -/
def lo8 (x : Int32) : Int32 := x.toInt8.toInt32
theorem fits_lo8 (y : Int32) : fits .byte (.int (lo8 y)) = true := by
  have h1 := y.toInt8.le_toInt
  have h2 := y.toInt8.toInt_lt
  simp only [lo8, fits, Bool.and_eq_true, decide_eq_true_eq, Int32.le_iff_toInt_le, Int8.toInt_toInt32, show (-128 : Int32).toInt = -128 from by decide, show (127 : Int32).toInt = 127 from by decide]
  omega
/-- A' is A but that each place j of lo .. hi - 1 holds f j -/
def Laid (A A' : Cell) (lo hi : Nat) (f : Nat → Value) : Prop := A'.cls = A.cls ∧ A'.vm = A.vm ∧ A'.slots.size = A.slots.size ∧ ∀ i, A'.slots[i]? = if lo ≤ i ∧ i < hi then some (f i) else A.slots[i]?
theorem Laid.zero (A : Cell) (lo : Nat) (f : Nat → Value) : Laid A A lo (lo + 0) f := ⟨rfl, rfl, rfl, fun i => by rw [if_neg (by omega)]⟩
theorem Laid.step {A Ak : Cell} {lo k : Nat} {f : Nat → Value} {v : Value} (h : Laid A Ak lo k f) (hlo : lo ≤ k) (hk : k < Ak.slots.size) (hv : v = f k) : Laid A (Ak.setSlot k v) lo (k + 1) f := by
  refine ⟨h.1, h.2.1, by simpa [Cell.setSlot] using h.2.2.1, fun i => ?_⟩
  by_cases e : k = i
  · subst e; rw [Cell.slots_setSlot_self v hk, if_pos (by omega), hv]
  · rw [Cell.slots_setSlot_ne v e, h.2.2.2 i]
    by_cases q : lo ≤ i ∧ i < k
    · rw [if_pos q, if_pos (by omega)]
    · rw [if_neg q, if_neg (by omega)]
def U16 : String := "java/lang/StringUTF16"
namespace Cmp5
def yN : MethodName := ⟨"java/lang/StringUTF16", "compress", "([CI[BII)I"⟩
abbrev yB : ByteArray := jdk_52_method_21_code
theorem d0 : decode yB 0 = .ok (.iconst 0, 1) := by decide +kernel
theorem d1 : decode yB 1 = .ok (.istore 5, 2) := by decide +kernel
theorem d3 : decode yB 3 = .ok (.iload 5, 2) := by decide +kernel
theorem d5 : decode yB 5 = .ok (.iload 4, 2) := by decide +kernel
theorem d7 : decode yB 7 = .ok (.if_icmp (.ge) 37, 3) := by decide +kernel
theorem d10 : decode yB 10 = .ok (.aload_n 0, 1) := by decide +kernel
theorem d11 : decode yB 11 = .ok (.iload_n 1, 1) := by decide +kernel
theorem d12 : decode yB 12 = .ok (.caload, 1) := by decide +kernel
theorem d13 : decode yB 13 = .ok (.istore 6, 2) := by decide +kernel
theorem d15 : decode yB 15 = .ok (.iload 6, 2) := by decide +kernel
theorem d17 : decode yB 17 = .ok (.sipush 255, 3) := by decide +kernel
theorem d20 : decode yB 20 = .ok (.if_icmp (.le) 6, 3) := by decide +kernel
theorem d26 : decode yB 26 = .ok (.aload_n 2, 1) := by decide +kernel
theorem d27 : decode yB 27 = .ok (.iload_n 3, 1) := by decide +kernel
theorem d28 : decode yB 28 = .ok (.iload 6, 2) := by decide +kernel
theorem d30 : decode yB 30 = .ok (.i2b, 1) := by decide +kernel
theorem d31 : decode yB 31 = .ok (.bastore, 1) := by decide +kernel
theorem d32 : decode yB 32 = .ok (.iinc 1 1, 3) := by decide +kernel
theorem d35 : decode yB 35 = .ok (.iinc 3 1, 3) := by decide +kernel
theorem d38 : decode yB 38 = .ok (.iinc 5 1, 3) := by decide +kernel
theorem d41 : decode yB 41 = .ok (.goto (-38), 3) := by decide +kernel
theorem d44 : decode yB 44 = .ok (.iload 4, 2) := by decide +kernel
theorem d46 : decode yB 46 = .ok (.ireturn, 1) := by decide +kernel
def site : List Cond := []
def tab : Cond := tabOf yN yB 7 (some .int) site
def P (b : Addr) (A : Cell) (d : Addr) (B : Cell) (o q len : Nat) (args : Array Value) (s : State) : Prop := args = #[.ref b, .int (Int32.ofNat o), .ref d, .int (Int32.ofNat q), .int (Int32.ofNat len)] ∧ Ch b A s ∧ Arr .byte d B s ∧ b ≠ d ∧ o + len ≤ A.slots.size ∧ q + len ≤ B.slots.size ∧ ∀ i, i < len → ¬ 255 < cv A (o + i)
def E (b : Addr) (A : Cell) (d : Addr) (B : Cell) (o q len : Nat) (r : Option Value) (s u : State) : Prop := r = some (.int (Int32.ofNat len)) ∧ ∃ B', Put d B' s u ∧ Laid B B' q (q + len) (fun j => Value.int (lo8 (cv A (o + (j - q)))))
/-- no char of the range above 255: len; the places written hold each char's low byte -/
theorem law (l : Launch) (b : Addr) (A : Cell) (d : Addr) (B : Cell) (o q len : Nat) : Law l yN 5 5 0 0 yB 7 (some .int) site (P b A d B o q len) (E b A d B o q len) (copyLocs d q len) 0 0 := by
  refine Law.of_walk (plainFor_of_name (by decide +kernel)) (by decide +kernel) (by decide +kernel) (by decide) (fun _ _ h => by rw [h.1]; rfl) (fun _ U U' hal hh h => ⟨h.1, h.2.1.mv hal hh, h.2.2.1.mv hal hh, h.2.2.2⟩) (fun r U U' V V' h1 hal h2 h => ⟨h.1, h.2.elim fun B' q => ⟨B', q.1.mv h1 h2, q.2⟩⟩) ?_
  intro p e s m args below meth c s₁ X0 hexec hbytes hml hret hlk hnm hown hh0 W hP
  obtain ⟨rfl, hA, hB, hne, l1, l2, hp⟩ := hP
  have c1 : Steps p.tables e below (s₁.setTop (entryFrame m #[.ref b, .int (Int32.ofNat o), .ref d, .int (Int32.ofNat q), .int (Int32.ofNat len)] 7)) (s₁.setTop (mkF m 0 #[.val (.ref b), .val (.int (Int32.ofNat o)), .val (.ref d), .val (.int (Int32.ofNat q)), .val (.int (Int32.ofNat len)), .unset, .unset] [])) := entry rfl
  have hA0 := hA.1.mv X0.warmed.alike hh0
  have hB0 := hB.mv X0.warmed.alike hh0
  have a31 := hA.1.2.2.2
  have c2 : Steps p.tables e below (s₁.setTop (entryFrame m #[.ref b, .int (Int32.ofNat o), .ref d, .int (Int32.ofNat q), .int (Int32.ofNat len)] 7)) (s₁.setTop (mkF m 3 #[.val (.ref b), .val (.int (Int32.ofNat o)), .val (.ref d), .val (.int (Int32.ofNat q)), .val (.int (Int32.ofNat len)), .val (.int 0), .unset] [])) := c1.trans (by
    refine iconstV X0.here hexec rfl 0 (hb hbytes d0) (by decide) ?_
    refine XS.istore X0.here hexec rfl (hb hbytes d1) rfl rfl ?_
    exact Steps.refl _)
  have loop : ∀ (r i : Nat), i + r = len → ∀ (z : Slot), (z = .unset ∨ ∃ w, z = .val w ∧ w.category = 1) → ∀ (Tl : State) (Bk : Cell), Stand p l e { frames := 0, locals := 0, cells := 0, slots := 0 } s m #[.ref b, .int (Int32.ofNat o), .ref d, .int (Int32.ofNat q), .int (Int32.ofNat len)] below meth c Tl ([] ++ copyLocs d q i) 0 0 → Put d Bk s₁ Tl → Laid B Bk q (q + i) (fun j => Value.int (lo8 (cv A (o + (j - q))))) →
      Steps p.tables e below (s₁.setTop (entryFrame m #[.ref b, .int (Int32.ofNat o), .ref d, .int (Int32.ofNat q), .int (Int32.ofNat len)] 7)) (Tl.setTop (mkF m 3 #[.val (.ref b), .val (.int (Int32.ofNat (o + i))), .val (.ref d), .val (.int (Int32.ofNat (q + i))), .val (.int (Int32.ofNat len)), .val (.int (Int32.ofNat i)), z] [])) → ∃ (T' : State) (B' : Cell) (z' : Slot), Stand p l e { frames := 0, locals := 0, cells := 0, slots := 0 } s m #[.ref b, .int (Int32.ofNat o), .ref d, .int (Int32.ofNat q), .int (Int32.ofNat len)] below meth c T' ([] ++ copyLocs d q len) 0 0 ∧ Put d B' s₁ T' ∧ Laid B B' q (q + len) (fun j => Value.int (lo8 (cv A (o + (j - q))))) ∧
      Steps p.tables e below (s₁.setTop (entryFrame m #[.ref b, .int (Int32.ofNat o), .ref d, .int (Int32.ofNat q), .int (Int32.ofNat len)] 7)) (T'.setTop (mkF m 3 #[.val (.ref b), .val (.int (Int32.ofNat (o + len))), .val (.ref d), .val (.int (Int32.ofNat (q + len))), .val (.int (Int32.ofNat len)), .val (.int (Int32.ofNat len)), z'] [])) := by
    intro r
    induction r with
    | zero =>
      intro i hi z hz Tl Bk Xl pl fl cl
      have hil : i = len := by omega
      rw [hil] at Xl fl cl
      exact ⟨Tl, Bk, z, Xl, pl, fl, cl⟩
    | succ r ih =>
      intro i hi z hz Tl Bk Xl pl fl cl
      have all := X0.warmed.alike.symm.trans Xl.warmed.alike
      have hAl := hA0.keep all (pl.other hne hA0.1)
      have hBk := hB0.like all pl.1 fl.1 fl.2.1 fl.2.2.1
      have hlt : q + i < Bk.slots.size := by rw [fl.2.2.1]; omega
      have c3 : Steps p.tables e below (s₁.setTop (entryFrame m #[.ref b, .int (Int32.ofNat o), .ref d, .int (Int32.ofNat q), .int (Int32.ofNat len)] 7)) (Tl.setTop (mkF m 12 #[.val (.ref b), .val (.int (Int32.ofNat (o + i))), .val (.ref d), .val (.int (Int32.ofNat (q + i))), .val (.int (Int32.ofNat len)), .val (.int (Int32.ofNat i)), z] [.int (Int32.ofNat (o + i)), .ref b])) := cl.trans (by
        refine XS.iload Xl.here hexec rfl (hb hbytes d3) rfl ?_
        refine XS.iload Xl.here hexec rfl (hb hbytes d5) rfl ?_
        refine XS.icmpNo Xl.here hexec rfl (hb hbytes d7) rfl (ii_ge_f (lt32 (by omega) (by omega))) ?_
        refine XS.aloadN Xl.here hexec rfl (hb hbytes d10) rfl rfl ?_
        refine XS.iloadN Xl.here hexec rfl (hb hbytes d11) rfl ?_
        exact Steps.refl _)
      have c4 : Steps p.tables e below (s₁.setTop (entryFrame m #[.ref b, .int (Int32.ofNat o), .ref d, .int (Int32.ofNat q), .int (Int32.ofNat len)] 7)) (Tl.setTop (mkF m 13 #[.val (.ref b), .val (.int (Int32.ofNat (o + i))), .val (.ref d), .val (.int (Int32.ofNat (q + i))), .val (.int (Int32.ofNat len)), .val (.int (Int32.ofNat i)), z] [.int (cv A (o + i))])) := c3.trans (by
        refine Xl.aget hexec hAl rfl (hA.get (i := o + i) (by omega)) rfl rfl (hb hbytes d12) ?_
        exact Steps.refl _)
      have c5 : Steps p.tables e below (s₁.setTop (entryFrame m #[.ref b, .int (Int32.ofNat o), .ref d, .int (Int32.ofNat q), .int (Int32.ofNat len)] 7)) (Tl.setTop (mkF m 15 #[.val (.ref b), .val (.int (Int32.ofNat (o + i))), .val (.ref d), .val (.int (Int32.ofNat (q + i))), .val (.int (Int32.ofNat len)), .val (.int (Int32.ofNat i)), .val (.int (cv A (o + i)))] [])) := c4.trans (by
        refine XS.istoreS Xl.here hexec rfl (hb hbytes d13) rfl rfl hz ?_
        exact Steps.refl _)
      have c6 : Steps p.tables e below (s₁.setTop (entryFrame m #[.ref b, .int (Int32.ofNat o), .ref d, .int (Int32.ofNat q), .int (Int32.ofNat len)] 7)) (Tl.setTop (mkF m 31 #[.val (.ref b), .val (.int (Int32.ofNat (o + i))), .val (.ref d), .val (.int (Int32.ofNat (q + i))), .val (.int (Int32.ofNat len)), .val (.int (Int32.ofNat i)), .val (.int (cv A (o + i)))] [.int (lo8 (cv A (o + i))), .int (Int32.ofNat (q + i)), .ref d])) := c5.trans (by
        refine XS.iload Xl.here hexec rfl (hb hbytes d15) rfl ?_
        refine sipushV Xl.here hexec rfl 255 (hb hbytes d17) (by decide) ?_
        refine XS.icmpYes Xl.here hexec rfl (pc0 := 20) rfl (hb hbytes d20) rfl (ii_le_t (hp i (by omega))) (by decide) rfl ?_
        refine XS.aloadN Xl.here hexec rfl (hb hbytes d26) rfl rfl ?_
        refine XS.iloadN Xl.here hexec rfl (hb hbytes d27) rfl ?_
        refine XS.iload Xl.here hexec rfl (hb hbytes d28) rfl ?_
        refine i2b Xl.here hexec rfl (hb hbytes d30) rfl ?_
        exact Steps.refl _)
      obtain ⟨T7, X7, p7, st7⟩ := Xl.aput hexec hBk rfl hlt rfl (fits_lo8 (cv A (o + i))) (g := (mkF m 31 #[.val (.ref b), .val (.int (Int32.ofNat (o + i))), .val (.ref d), .val (.int (Int32.ofNat (q + i))), .val (.int (Int32.ofNat len)), .val (.int (Int32.ofNat i)), .val (.int (cv A (o + i)))] [.int (lo8 (cv A (o + i))), .int (Int32.ofNat (q + i)), .ref d])) rfl (rest := []) rfl (hb hbytes d31)
      have c8 : Steps p.tables e below (s₁.setTop (entryFrame m #[.ref b, .int (Int32.ofNat o), .ref d, .int (Int32.ofNat q), .int (Int32.ofNat len)] 7)) (T7.setTop (mkF m 32 #[.val (.ref b), .val (.int (Int32.ofNat (o + i))), .val (.ref d), .val (.int (Int32.ofNat (q + i))), .val (.int (Int32.ofNat len)), .val (.int (Int32.ofNat i)), .val (.int (cv A (o + i)))] [])) := c6.trans (st7 _ (Steps.refl _))
      have c9 : Steps p.tables e below (s₁.setTop (entryFrame m #[.ref b, .int (Int32.ofNat o), .ref d, .int (Int32.ofNat q), .int (Int32.ofNat len)] 7)) (T7.setTop (mkF m 3 #[.val (.ref b), .val (.int (Int32.ofNat (o + i) + 1)), .val (.ref d), .val (.int (Int32.ofNat (q + i) + 1)), .val (.int (Int32.ofNat len)), .val (.int (Int32.ofNat i + 1)), .val (.int (cv A (o + i)))] [])) := c8.trans (by
        refine iincV X7.here hexec rfl 1 (hb hbytes d32) (by decide) rfl rfl ?_
        refine iincV X7.here hexec rfl 1 (hb hbytes d35) (by decide) rfl rfl ?_
        refine iincV X7.here hexec rfl 1 (hb hbytes d38) (by decide) rfl rfl ?_
        refine XS.goto X7.here hexec rfl (pc0 := 41) rfl (hb hbytes d41) (by decide) rfl ?_
        exact Steps.refl _)
      have c10 : Steps p.tables e below (s₁.setTop (entryFrame m #[.ref b, .int (Int32.ofNat o), .ref d, .int (Int32.ofNat q), .int (Int32.ofNat len)] 7)) (T7.setTop (mkF m 3 #[.val (.ref b), .val (.int (Int32.ofNat (o + (i + 1)))), .val (.ref d), .val (.int (Int32.ofNat (q + (i + 1)))), .val (.int (Int32.ofNat len)), .val (.int (Int32.ofNat (i + 1))), .val (.int (cv A (o + i)))] [])) := by
        have := c9
        rw [succ32, succ32, succ32] at this
        exact this
      exact ih (i + 1) (by omega) _ (Or.inr ⟨_, rfl, rfl⟩) T7 _ (by rw [copyLocs_step, ← List.append_assoc]; exact X7) (pl.trans p7) (fl.step (by omega) hlt (by simp)) c10
  obtain ⟨T9, B9, z9, X9, p9, f9, g9⟩ := loop len 0 (by omega) .unset (Or.inl rfl) s₁ B (by simpa [copyLocs] using X0) ⟨hB0.1, fun _ _ => rfl, rfl⟩ (Laid.zero _ _ _) c2
  have c11 : Steps p.tables e below (s₁.setTop (entryFrame m #[.ref b, .int (Int32.ofNat o), .ref d, .int (Int32.ofNat q), .int (Int32.ofNat len)] 7)) (T9.setTop (mkF m 46 #[.val (.ref b), .val (.int (Int32.ofNat (o + len))), .val (.ref d), .val (.int (Int32.ofNat (q + len))), .val (.int (Int32.ofNat len)), .val (.int (Int32.ofNat len)), z9] [.int (Int32.ofNat len)])) := g9.trans (by
    refine XS.iload X9.here hexec rfl (hb hbytes d3) rfl ?_
    refine XS.iload X9.here hexec rfl (hb hbytes d5) rfl ?_
    refine XS.icmpYes X9.here hexec rfl (pc0 := 7) rfl (hb hbytes d7) rfl (ii_ge_t (nlt32 (by omega) (Nat.le_refl _))) (by decide) rfl ?_
    refine XS.iload X9.here hexec rfl (hb hbytes d44) rfl ?_
    exact Steps.refl _)
  exact ⟨T9, some (.int (Int32.ofNat len)), _, _, _, X9, by simp, rfl, rfl, (fun h => by cases h), ⟨rfl, B9, p9.from hh0, f9⟩, fun fs hl => c11.trans (X9.ireturnOut hexec hret rfl (Or.inl rfl) (hb hbytes d46) hl)⟩
end Cmp5
namespace Cmp3
def yN : MethodName := ⟨"java/lang/StringUTF16", "compress", "([CII)[B"⟩
abbrev yB : ByteArray := jdk_52_method_16_code
theorem d0 : decode yB 0 = .ok (.iload_n 2, 1) := by decide +kernel
theorem d1 : decode yB 1 = .ok (.newarray .byte, 2) := by decide +kernel
theorem d3 : decode yB 3 = .ok (.astore_n 3, 1) := by decide +kernel
theorem d4 : decode yB 4 = .ok (.aload_n 0, 1) := by decide +kernel
theorem d5 : decode yB 5 = .ok (.iload_n 1, 1) := by decide +kernel
theorem d6 : decode yB 6 = .ok (.aload_n 3, 1) := by decide +kernel
theorem d7 : decode yB 7 = .ok (.iconst 0, 1) := by decide +kernel
theorem d8 : decode yB 8 = .ok (.iload_n 2, 1) := by decide +kernel
theorem d9 : decode yB 9 = .ok (.invokestatic 115, 3) := by decide +kernel
theorem d12 : decode yB 12 = .ok (.istore 4, 2) := by decide +kernel
theorem d14 : decode yB 14 = .ok (.iload 4, 2) := by decide +kernel
theorem d16 : decode yB 16 = .ok (.iload_n 2, 1) := by decide +kernel
theorem d17 : decode yB 17 = .ok (.if_icmp (.eq) 40, 3) := by decide +kernel
theorem d57 : decode yB 57 = .ok (.aload_n 3, 1) := by decide +kernel
theorem d58 : decode yB 58 = .ok (.areturn, 1) := by decide +kernel
def site : List Cond := [.arrayClass .byte, Cmp5.tab] ++ staticW U16 115 Cmp5.yN
def tab : Cond := tabOf yN yB 6 (some (.array .byte)) site
def P (b : Addr) (A : Cell) (o len : Nat) (args : Array Value) (s : State) : Prop := args = #[.ref b, .int (Int32.ofNat o), .int (Int32.ofNat len)] ∧ Ch b A s ∧ o + len ≤ A.slots.size ∧ len ≤ 536870912 ∧ ∀ i, i < len → ¬ 255 < cv A (o + i)
def E (b : Addr) (A : Cell) (o len : Nat) (r : Option Value) (s u : State) : Prop := NewArr .byte "[B" len (fun j => .int (lo8 (cv A (o + j)))) r s u ∧ u.heap.size = s.heap.size + 1
/-- no char of the range above 255: a new byte[] of their low bytes -/
theorem law (l : Launch) (b : Addr) (A : Cell) (o len : Nat) : Law l yN 3 3 1 18 yB 6 (some (.array .byte)) site (P b A o len) (E b A o len) [] 1 len := by
  refine Law.of_walk (plainFor_of_name (by decide +kernel)) (by decide +kernel) (by decide +kernel) (by decide) (fun _ _ h => by rw [h.1]; rfl) (fun _ U U' hal hh h => ⟨h.1, h.2.1.mv hal hh, h.2.2⟩) (fun r U U' V V' h1 hal h2 h => ⟨NewArr.mv r U U' V V' h1 hal h2 h.1, by rw [h1, h2]; exact h.2⟩) ?_
  intro p e s m args below meth c s₁ X0 hexec hbytes hml hret hlk hnm hown hh0 W hP
  obtain ⟨rfl, hA, l1, l2, hp⟩ := hP
  have a31 := hA.1.2.2.2
  have c1 : Steps p.tables e below (s₁.setTop (entryFrame m #[.ref b, .int (Int32.ofNat o), .int (Int32.ofNat len)] 6)) (s₁.setTop (mkF m 0 #[.val (.ref b), .val (.int (Int32.ofNat o)), .val (.int (Int32.ofNat len)), .unset, .unset, .unset] [])) := entry rfl
  have c2 : Steps p.tables e below (s₁.setTop (entryFrame m #[.ref b, .int (Int32.ofNat o), .int (Int32.ofNat len)] 6)) (s₁.setTop (mkF m 1 #[.val (.ref b), .val (.int (Int32.ofNat o)), .val (.int (Int32.ofNat len)), .unset, .unset, .unset] [.int (Int32.ofNat len)])) := c1.trans (by
    refine XS.iloadN X0.here hexec rfl (hb hbytes d0) rfl ?_
    exact Steps.refl _)
  obtain ⟨T3, B3, X3, ba3, bs3, bv3, bh3, bf3, st3⟩ := X0.anew hexec (atype := .byte) (wk W (.arrayClass .byte)) rfl (by show len * 1 ≤ _; omega) (by omega) (g := (mkF m 1 #[.val (.ref b), .val (.int (Int32.ofNat o)), .val (.int (Int32.ofNat len)), .unset, .unset, .unset] [.int (Int32.ofNat len)])) rfl (hb hbytes d1) (rest := []) rfl (Nat.le_refl _) (by show 0 + len ≤ len; omega)
  rw [hh0] at ba3 st3
  have kp3 : XT.Kept s T3 := (XT.Kept.of_eq hh0).push bh3
  have hA3 := hA.keep X3.warmed.alike (kp3 _ _ hA.1.1)
  have hne : b ≠ s.heap.size := hA.1.ne
  have c4 : Steps p.tables e below (s₁.setTop (entryFrame m #[.ref b, .int (Int32.ofNat o), .int (Int32.ofNat len)] 6)) (T3.setTop (mkF m 3 #[.val (.ref b), .val (.int (Int32.ofNat o)), .val (.int (Int32.ofNat len)), .unset, .unset, .unset] [.ref s.heap.size])) := c2.trans (st3 _ (Steps.refl _))
  have c5 : Steps p.tables e below (s₁.setTop (entryFrame m #[.ref b, .int (Int32.ofNat o), .int (Int32.ofNat len)] 6)) (T3.setTop (mkF m 9 #[.val (.ref b), .val (.int (Int32.ofNat o)), .val (.int (Int32.ofNat len)), .val (.ref s.heap.size), .unset, .unset] [.int (Int32.ofNat len), .int 0, .ref s.heap.size, .int (Int32.ofNat o), .ref b])) := c4.trans (by
    refine XS.astoreN X3.here hexec rfl (hb hbytes d3) rfl rfl rfl ?_
    refine XS.aloadN X3.here hexec rfl (hb hbytes d4) rfl rfl ?_
    refine XS.iloadN X3.here hexec rfl (hb hbytes d5) rfl ?_
    refine XS.aloadN X3.here hexec rfl (hb hbytes d6) rfl rfl ?_
    refine iconstV X3.here hexec rfl 0 (hb hbytes d7) (by decide) ?_
    refine XS.iloadN X3.here hexec rfl (hb hbytes d8) rfl ?_
    exact Steps.refl _)
  obtain ⟨v6, T6, X6, E6, g6⟩ := X3.callS hexec (Cmp5.law l b A s.heap.size B3 o 0 len) hown (wks W (staticW U16 115 Cmp5.yN)) (wk W Cmp5.tab) (W := 0) (Nat.le_of_ble_eq_true rfl) (Nat.le_of_ble_eq_true rfl) (Nat.le_refl _) (by show 0 + len + 0 ≤ len; omega) (g := (mkF m 9 #[.val (.ref b), .val (.int (Int32.ofNat o)), .val (.int (Int32.ofNat len)), .val (.ref s.heap.size), .unset, .unset] [.int (Int32.ofNat len), .int (Int32.ofNat 0), .ref s.heap.size, .int (Int32.ofNat o), .ref b])) rfl (by rw [hml]; rfl) c5 (argsL := [.ref b, .int (Int32.ofNat o), .ref s.heap.size, .int (Int32.ofNat 0), .int (Int32.ofNat len)]) (rest := []) rfl rfl (by show 2 * 0 + 0 ≤ _; decide) (hb hbytes d9) (⟨rfl, hA3, ba3, hne, l1, by rw [bs3]; simp, hp⟩)
  obtain ⟨rfl, B6, p6, f6⟩ := E6
  have c7 : Steps p.tables e below (s₁.setTop (entryFrame m #[.ref b, .int (Int32.ofNat o), .int (Int32.ofNat len)] 6)) (T6.setTop (mkF m 12 #[.val (.ref b), .val (.int (Int32.ofNat o)), .val (.int (Int32.ofNat len)), .val (.ref s.heap.size), .unset, .unset] [.int (Int32.ofNat len)])) := g6
  have c8 : Steps p.tables e below (s₁.setTop (entryFrame m #[.ref b, .int (Int32.ofNat o), .int (Int32.ofNat len)] 6)) (T6.setTop (mkF m 58 #[.val (.ref b), .val (.int (Int32.ofNat o)), .val (.int (Int32.ofNat len)), .val (.ref s.heap.size), .val (.int (Int32.ofNat len)), .unset] [.ref s.heap.size])) := c7.trans (by
    refine XS.istore X6.here hexec rfl (hb hbytes d12) rfl rfl ?_
    refine XS.iload X6.here hexec rfl (hb hbytes d14) rfl ?_
    refine XS.iloadN X6.here hexec rfl (hb hbytes d16) rfl ?_
    refine XS.icmpYes X6.here hexec rfl (pc0 := 17) rfl (hb hbytes d17) rfl (ii_eq_t rfl) (by decide) rfl ?_
    refine XS.aloadN X6.here hexec rfl (hb hbytes d57) rfl rfl ?_
    exact Steps.refl _)
  have X8 := X6.wide (L' := []) (cells' := 1) (slots' := len) (fun x hx hlt => by
    simp only [List.nil_append, copyLocs, List.mem_map, List.mem_range] at hx
    obtain ⟨i, -, rfl⟩ := hx
    exact absurd hlt (Nat.lt_irrefl _)) (Nat.le_refl _) (by omega)
  exact ⟨T6, some (.ref s.heap.size), _, _, _, X8, rfl, rfl, rfl, (fun h => by cases h), ⟨⟨rfl, B6, ba3.like (X3.warmed.alike.symm.trans X6.warmed.alike) p6.1 f6.1 f6.2.1 f6.2.2.1, f6.2.1.trans bv3, by rw [X6.warmed.alike.findClass, f6.1]; exact bf3, by rw [f6.2.2.1, bs3]; simp, fun j hj => by rw [f6.2.2.2 j, if_pos (by omega)]; rfl, kp3.put p6 (Nat.le_refl _)⟩, by rw [p6.2.2, bh3, hh0]; simp⟩, fun fs hl => c8.trans (X8.areturnOut hexec rfl hret rfl (hb hbytes d58) hl)⟩
end Cmp3
namespace CodL
def yN : MethodName := ⟨"java/lang/StringUTF16", "coderFromArrayLen", "([BI)B"⟩
abbrev yB : ByteArray := jdk_52_method_15_code
theorem d0 : decode yB 0 = .ok (.iload_n 1, 1) := by decide +kernel
theorem d1 : decode yB 1 = .ok (.aload_n 0, 1) := by decide +kernel
theorem d2 : decode yB 2 = .ok (.arraylength, 1) := by decide +kernel
theorem d3 : decode yB 3 = .ok (.isub, 1) := by decide +kernel
theorem d4 : decode yB 4 = .ok (.bipush 31, 2) := by decide +kernel
theorem d6 : decode yB 6 = .ok (.iushr, 1) := by decide +kernel
theorem d7 : decode yB 7 = .ok (.i2b, 1) := by decide +kernel
theorem d8 : decode yB 8 = .ok (.ireturn, 1) := by decide +kernel
def site : List Cond := []
def tab : Cond := tabOf yN yB 2 (some .byte) site
def P (d : Addr) (B : Cell) (args : Array Value) (s : State) : Prop := args = #[.ref d, .int (Int32.ofNat B.slots.size)] ∧ Arr .byte d B s
def E (r : Option Value) (s u : State) : Prop := XT.PureE (some (.int 0)) r s u
/-- an array as long as the number of chars: LATIN1 -/
theorem law (l : Launch) (d : Addr) (B : Cell) : Law l yN 2 2 0 0 yB 2 (some .byte) site (P d B) E [] 0 0 := by
  refine Law.of_walk (plainFor_of_name (by decide +kernel)) (by decide +kernel) (by decide +kernel) (by decide) (fun _ _ h => by rw [h.1]; rfl) (fun _ U U' hal hh h => ⟨h.1, h.2.mv hal hh⟩) (fun r U U' V V' h1 hal h2 h => XT.PureE.mv r U U' V V' h1 hal h2 h) ?_
  intro p e s m args below meth c s₁ X0 hexec hbytes hml hret hlk hnm hown hh0 W hP
  obtain ⟨rfl, hB⟩ := hP
  have hB0 := hB.mv X0.warmed.alike hh0
  have c1 : Steps p.tables e below (s₁.setTop (entryFrame m #[.ref d, .int (Int32.ofNat B.slots.size)] 2)) (s₁.setTop (mkF m 0 #[.val (.ref d), .val (.int (Int32.ofNat B.slots.size))] [])) := entry rfl
  have c2 : Steps p.tables e below (s₁.setTop (entryFrame m #[.ref d, .int (Int32.ofNat B.slots.size)] 2)) (s₁.setTop (mkF m 2 #[.val (.ref d), .val (.int (Int32.ofNat B.slots.size))] [.ref d, .int (Int32.ofNat B.slots.size)])) := c1.trans (by
    refine XS.iloadN X0.here hexec rfl (hb hbytes d0) rfl ?_
    refine XS.aloadN X0.here hexec rfl (hb hbytes d1) rfl rfl ?_
    exact Steps.refl _)
  have c3 : Steps p.tables e below (s₁.setTop (entryFrame m #[.ref d, .int (Int32.ofNat B.slots.size)] 2)) (s₁.setTop (mkF m 8 #[.val (.ref d), .val (.int (Int32.ofNat B.slots.size))] [.int (lo8 (ushr (Int32.ofNat B.slots.size - Int32.ofNat B.slots.size) 31))])) := c2.trans (by
    refine X0.alen hexec hB0 rfl rfl (hb hbytes d2) ?_
    refine XS.isub X0.here hexec rfl (hb hbytes d3) rfl ?_
    refine bipushV X0.here hexec rfl 31 (hb hbytes d4) (by decide) ?_
    refine iushr X0.here hexec rfl (hb hbytes d6) rfl ?_
    refine i2b X0.here hexec rfl (hb hbytes d7) rfl ?_
    exact Steps.refl _)
  have e0 : lo8 (ushr (Int32.ofNat B.slots.size - Int32.ofNat B.slots.size) 31) = 0 := by rw [Int32.sub_self]; decide
  rw [e0] at c3
  exact ⟨s₁, some (.int 0), _, _, _, X0, rfl, rfl, rfl, (fun h => by cases h), ⟨rfl, hh0⟩, fun fs hl => c3.trans (X0.ireturnOut hexec hret rfl (Or.inr (Or.inr (Or.inl rfl))) (hb hbytes d8) hl)⟩
end CodL
/-- the String at a is Latin-1 over a new byte[] (the heap's one new cell): the low bytes of the len chars of A from o on; every cell but a is kept -/
def Got (a : Addr) (D : Cell) (fV fC : Field) (A : Cell) (o len : Nat) (r : Option Value) (s u : State) : Prop := r = none ∧ ∃ D' V : Cell, Blank "java/lang/String" a D' u ∧ Same D D' [fV.slot, fC.slot] ∧ D'.slots[fV.slot]? = some (.ref s.heap.size) ∧ D'.slots[fC.slot]? = some (.int 0) ∧ Arr .byte s.heap.size V u ∧ V.vm = .none ∧ u.vm.findClass "[B" = some V.cls ∧ V.slots.size = len ∧ (∀ j, j < len → V.slots[j]? = some (.int (lo8 (cv A (o + j))))) ∧ (∀ (y : Addr) (c : Cell), y ≠ a → s.heap[y]? = some c → u.heap[y]? = some c) ∧ u.heap.size = s.heap.size + 1
theorem Got.mv {a : Addr} {D A : Cell} {fV fC : Field} {o len : Nat} : ∀ r (U U' V V' : State), U'.heap = U.heap → V.vm.Alike V'.vm → V'.heap = V.heap → Got a D fV fC A o len r U V → Got a D fV fC A o len r U' V' :=
  fun r U U' V V' h1 hal h2 ⟨e0, D', X, a1, a2, a3, a4, a5, a6, a7, a8, a9, a10, a11⟩ => ⟨e0, D', X, a1.mv hal h2, a2, by rw [h1]; exact a3, a4, by rw [h1]; exact a5.mv hal h2, a6, by rw [hal.findClass]; exact a7, a8, a9, by rw [h1, h2]; exact a10, by rw [h1, h2]; exact a11⟩
namespace New4
def yN : MethodName := ⟨"java/lang/String", "<init>", "([CIILjava/lang/Void;)V"⟩
abbrev yB : ByteArray := jdk_42_method_149_code
theorem d0 : decode yB 0 = .ok (.aload_n 0, 1) := by decide +kernel
theorem d1 : decode yB 1 = .ok (.invokespecial 1, 3) := by decide +kernel
theorem d4 : decode yB 4 = .ok (.iload_n 3, 1) := by decide +kernel
theorem d5 : decode yB 5 = .ok (.ifCond (.ne) 22, 3) := by decide +kernel
theorem d27 : decode yB 27 = .ok (.getstatic 38, 3) := by decide +kernel
theorem d30 : decode yB 30 = .ok (.ifCond (.eq) 28, 3) := by decide +kernel
theorem d33 : decode yB 33 = .ok (.aload_n 1, 1) := by decide +kernel
theorem d34 : decode yB 34 = .ok (.iload_n 2, 1) := by decide +kernel
theorem d35 : decode yB 35 = .ok (.iload_n 3, 1) := by decide +kernel
theorem d36 : decode yB 36 = .ok (.invokestatic 177, 3) := by decide +kernel
theorem d39 : decode yB 39 = .ok (.astore 5, 2) := by decide +kernel
theorem d41 : decode yB 41 = .ok (.aload_n 0, 1) := by decide +kernel
theorem d42 : decode yB 42 = .ok (.aload 5, 2) := by decide +kernel
theorem d44 : decode yB 44 = .ok (.iload_n 3, 1) := by decide +kernel
theorem d45 : decode yB 45 = .ok (.invokestatic 47, 3) := by decide +kernel
theorem d48 : decode yB 48 = .ok (.putfield 15, 3) := by decide +kernel
theorem d51 : decode yB 51 = .ok (.aload_n 0, 1) := by decide +kernel
theorem d52 : decode yB 52 = .ok (.aload 5, 2) := by decide +kernel
theorem d54 : decode yB 54 = .ok (.putfield 9, 3) := by decide +kernel
theorem d57 : decode yB 57 = .ok (.return_, 1) := by decide +kernel
def site : List Cond := [.fieldLink "java/lang/String" 38 "java/lang/String" "COMPACT_STRINGS" "Z", Cmp3.tab, CodL.tab, .laysFinal "java/lang/String" "java/lang/String" "value" "[B", .fieldLink "java/lang/String" 9 "java/lang/String" "value" "[B", .laysFinal "java/lang/String" "java/lang/String" "coder" "B", .fieldLink "java/lang/String" 15 "java/lang/String" "coder" "B"] ++ objW "java/lang/String" 1 ++ staticW "java/lang/String" 177 Cmp3.yN ++ staticW "java/lang/String" 47 CodL.yN
def tab : Cond := tabOf yN yB 6 none site
def P (a : Addr) (D : Cell) (fV fC : Field) (b : Addr) (A : Cell) (z : Int32) (o len : Nat) (args : Array Value) (s : State) : Prop := args = #[.ref a, .ref b, .int (Int32.ofNat o), .int (Int32.ofNat len), .null] ∧ Blank "java/lang/String" a D s ∧ Found "java/lang/String" "value" "[B" fV s ∧ Found "java/lang/String" "coder" "B" fC s ∧ Ch b A s ∧ StaticIs s "java/lang/String" "COMPACT_STRINGS" "Z" (.int z) ∧ ¬ z = 0 ∧ 0 < len ∧ o + len ≤ A.slots.size ∧ len ≤ 536870912 ∧ ∀ i, i < len → ¬ 255 < cv A (o + i)
def E (a : Addr) (D : Cell) (fV fC : Field) (A : Cell) (o len : Nat) (r : Option Value) (s u : State) : Prop := Got a D fV fC A o len r s u
/-- len > 0, no char of the range above 255: a Latin-1 String of their low bytes -/
theorem law (l : Launch) (a : Addr) (D : Cell) (fV fC : Field) (b : Addr) (A : Cell) (z : Int32) (o len : Nat) : Law l yN 5 4 2 35 yB 6 none site (P a D fV fC b A z o len) (E a D fV fC A o len) [⟨a, fC.slot⟩, ⟨a, fV.slot⟩] 1 len := by
  refine Law.of_walk (plainFor_of_name (by decide +kernel)) (by decide +kernel) (by decide +kernel) (by decide) (fun _ _ h => by rw [h.1]; rfl) (fun _ U U' hal hh h => ⟨h.1, h.2.1.mv hal hh, h.2.2.1.al hal, h.2.2.2.1.al hal, h.2.2.2.2.1.mv hal hh, h.2.2.2.2.2.1.there hal hh, h.2.2.2.2.2.2⟩) (fun r U U' V V' h1 hal h2 h => Got.mv r U U' V V' h1 hal h2 h) ?_
  intro p e s m args below meth c s₁ X0 hexec hbytes hml hret hlk hnm hown hh0 W hP
  obtain ⟨rfl, hB, f1, f2, hA, s1, hz, l0, l1, l2, hp⟩ := hP
  have a31 := hA.1.2.2.2
  have c1 : Steps p.tables e below (s₁.setTop (entryFrame m #[.ref a, .ref b, .int (Int32.ofNat o), .int (Int32.ofNat len), .null] 6)) (s₁.setTop (mkF m 0 #[.val (.ref a), .val (.ref b), .val (.int (Int32.ofNat o)), .val (.int (Int32.ofNat len)), .val .null, .unset] [])) := entry rfl
  have c2 : Steps p.tables e below (s₁.setTop (entryFrame m #[.ref a, .ref b, .int (Int32.ofNat o), .int (Int32.ofNat len), .null] 6)) (s₁.setTop (mkF m 1 #[.val (.ref a), .val (.ref b), .val (.int (Int32.ofNat o)), .val (.int (Int32.ofNat len)), .val .null, .unset] [.ref a])) := c1.trans (by
    refine XS.aloadN X0.here hexec rfl (hb hbytes d0) rfl rfl ?_
    exact Steps.refl _)
  obtain ⟨T3, X3, q3, st3⟩ := X0.oinit hexec hown (wks W (objW "java/lang/String" 1)) (g := (mkF m 1 #[.val (.ref a), .val (.ref b), .val (.int (Int32.ofNat o)), .val (.int (Int32.ofNat len)), .val .null, .unset] [.ref a])) rfl (by rw [hml]; rfl) (rest := []) rfl (hb hbytes d1) (W := 0) (by show 2 * 0 + 0 ≤ _; decide) (Nat.le_of_ble_eq_true rfl) (Nat.le_of_ble_eq_true rfl)
  have hh3 := q3.trans hh0
  have c4 : Steps p.tables e below (s₁.setTop (entryFrame m #[.ref a, .ref b, .int (Int32.ofNat o), .int (Int32.ofNat len), .null] 6)) (T3.setTop (mkF m 27 #[.val (.ref a), .val (.ref b), .val (.int (Int32.ofNat o)), .val (.int (Int32.ofNat len)), .val .null, .unset] [])) := (c2.trans (st3 _ (Steps.refl _))).trans (by
    refine XS.iloadN X3.here hexec rfl (hb hbytes d4) rfl ?_
    refine XS.ifYes X3.here hexec rfl (pc0 := 5) rfl (hb hbytes d5) rfl (i0_ne_t (nz32 (by omega) l0)) (by decide) rfl ?_
    exact Steps.refl _)
  obtain ⟨T5, X5, q5, st5⟩ := X3.sget hexec hown (wk W (.fieldLink "java/lang/String" 38 "java/lang/String" "COMPACT_STRINGS" "Z")) s1 (fun _ _ h => by rw [hh3]; exact h) (g := (mkF m 27 #[.val (.ref a), .val (.ref b), .val (.int (Int32.ofNat o)), .val (.int (Int32.ofNat len)), .val .null, .unset] [])) rfl (hb hbytes d27)
  have hh5 := q5.trans hh3
  have c6 : Steps p.tables e below (s₁.setTop (entryFrame m #[.ref a, .ref b, .int (Int32.ofNat o), .int (Int32.ofNat len), .null] 6)) (T5.setTop (mkF m 30 #[.val (.ref a), .val (.ref b), .val (.int (Int32.ofNat o)), .val (.int (Int32.ofNat len)), .val .null, .unset] [.int z])) := c4.trans (st5 _ (Steps.refl _))
  have c7 : Steps p.tables e below (s₁.setTop (entryFrame m #[.ref a, .ref b, .int (Int32.ofNat o), .int (Int32.ofNat len), .null] 6)) (T5.setTop (mkF m 36 #[.val (.ref a), .val (.ref b), .val (.int (Int32.ofNat o)), .val (.int (Int32.ofNat len)), .val .null, .unset] [.int (Int32.ofNat len), .int (Int32.ofNat o), .ref b])) := c6.trans (by
    refine XS.ifNo X5.here hexec rfl (hb hbytes d30) rfl (i0_eq_f hz) ?_
    refine XS.aloadN X5.here hexec rfl (hb hbytes d33) rfl rfl ?_
    refine XS.iloadN X5.here hexec rfl (hb hbytes d34) rfl ?_
    refine XS.iloadN X5.here hexec rfl (hb hbytes d35) rfl ?_
    exact Steps.refl _)
  obtain ⟨v8, T8, X8, E8, g8⟩ := X5.callS hexec (Cmp3.law l b A o len) hown (wks W (staticW "java/lang/String" 177 Cmp3.yN)) (wk W Cmp3.tab) (W := 0) (Nat.le_of_ble_eq_true rfl) (Nat.le_of_ble_eq_true rfl) (Nat.le_refl _) (by show 0 + len ≤ len; omega) (g := (mkF m 36 #[.val (.ref a), .val (.ref b), .val (.int (Int32.ofNat o)), .val (.int (Int32.ofNat len)), .val .null, .unset] [.int (Int32.ofNat len), .int (Int32.ofNat o), .ref b])) rfl (by rw [hml]; rfl) c7 (argsL := [.ref b, .int (Int32.ofNat o), .int (Int32.ofNat len)]) (rest := []) rfl rfl (by show 2 * 0 + 0 ≤ _; decide) (hb hbytes d36) (⟨rfl, hA.mv X5.warmed.alike hh5, l1, l2, hp⟩)
  obtain ⟨e8, z8⟩ := E8
  obtain ⟨rfl, N, n1, n2, n3, n4, n5, n6⟩ := NewArr.mv _ T5 s _ _ hh5.symm (Vm.Alike.refl _) rfl e8
  rw [hh5] at z8
  have hB1 := hB.keep X8.warmed.alike (n6 _ _ hB.1)
  have hne : s.heap.size ≠ a := (Nat.ne_of_lt (Array.getElem?_eq_some_iff.mp hB.1).1).symm
  have c9 : Steps p.tables e below (s₁.setTop (entryFrame m #[.ref a, .ref b, .int (Int32.ofNat o), .int (Int32.ofNat len), .null] 6)) (T8.setTop (mkF m 39 #[.val (.ref a), .val (.ref b), .val (.int (Int32.ofNat o)), .val (.int (Int32.ofNat len)), .val .null, .unset] [.ref s.heap.size])) := g8
  have c10 : Steps p.tables e below (s₁.setTop (entryFrame m #[.ref a, .ref b, .int (Int32.ofNat o), .int (Int32.ofNat len), .null] 6)) (T8.setTop (mkF m 45 #[.val (.ref a), .val (.ref b), .val (.int (Int32.ofNat o)), .val (.int (Int32.ofNat len)), .val .null, .val (.ref s.heap.size)] [.int (Int32.ofNat N.slots.size), .ref s.heap.size, .ref a])) := by
    have hc : Steps p.tables e below (s₁.setTop (entryFrame m #[.ref a, .ref b, .int (Int32.ofNat o), .int (Int32.ofNat len), .null] 6)) (T8.setTop (mkF m 45 #[.val (.ref a), .val (.ref b), .val (.int (Int32.ofNat o)), .val (.int (Int32.ofNat len)), .val .null, .val (.ref s.heap.size)] [.int (Int32.ofNat len), .ref s.heap.size, .ref a])) := c9.trans (by
      refine XS.astore X8.here hexec rfl (hb hbytes d39) rfl rfl rfl ?_
      refine XS.aloadN X8.here hexec rfl (hb hbytes d41) rfl rfl ?_
      refine XS.aload X8.here hexec rfl (hb hbytes d42) rfl rfl ?_
      refine XS.iloadN X8.here hexec rfl (hb hbytes d44) rfl ?_
      exact Steps.refl _)
    rw [n4]; exact hc
  obtain ⟨v11, T11, X11, E11, g11⟩ := X8.callS hexec (CodL.law l s.heap.size N) hown (wks W (staticW "java/lang/String" 47 CodL.yN)) (wk W CodL.tab) (W := 1) (Nat.le_of_ble_eq_true rfl) (Nat.le_of_ble_eq_true rfl) (Nat.le_refl _) (by show 0 + len + 0 ≤ len; omega) (g := (mkF m 45 #[.val (.ref a), .val (.ref b), .val (.int (Int32.ofNat o)), .val (.int (Int32.ofNat len)), .val .null, .val (.ref s.heap.size)] [.int (Int32.ofNat N.slots.size), .ref s.heap.size, .ref a])) rfl (by rw [hml]; rfl) c10 (argsL := [.ref s.heap.size, .int (Int32.ofNat N.slots.size)]) (rest := [.ref a]) rfl rfl (by show 2 * 0 + (1 + 0) ≤ _; decide) (hb hbytes d45) (⟨rfl, n1⟩)
  obtain ⟨rfl, q11⟩ := E11
  have hB11 := hB1.mv (X8.warmed.alike.symm.trans X11.warmed.alike) q11
  have c12 : Steps p.tables e below (s₁.setTop (entryFrame m #[.ref a, .ref b, .int (Int32.ofNat o), .int (Int32.ofNat len), .null] 6)) (T11.setTop (mkF m 48 #[.val (.ref a), .val (.ref b), .val (.int (Int32.ofNat o)), .val (.int (Int32.ofNat len)), .val .null, .val (.ref s.heap.size)] [.int 0, .ref a])) := g11
  obtain ⟨T13, X13, p13, bl13, sl13, st13⟩ := X11.finit hexec hown (wk W (.fieldLink "java/lang/String" 15 "java/lang/String" "coder" "B")) (Or.inr ⟨_, (wk W (.laysFinal "java/lang/String" "java/lang/String" "coder" "B"))⟩) (Or.inl ⟨rfl, hnm⟩) f2 (Or.inl rfl) hB11 (t := .byte) (by decide +kernel) rfl (g := (mkF m 48 #[.val (.ref a), .val (.ref b), .val (.int (Int32.ofNat o)), .val (.int (Int32.ofNat len)), .val .null, .val (.ref s.heap.size)] [.int 0, .ref a])) rfl (rest := []) rfl (hb hbytes d48)
  have c14 : Steps p.tables e below (s₁.setTop (entryFrame m #[.ref a, .ref b, .int (Int32.ofNat o), .int (Int32.ofNat len), .null] 6)) (T13.setTop (mkF m 54 #[.val (.ref a), .val (.ref b), .val (.int (Int32.ofNat o)), .val (.int (Int32.ofNat len)), .val .null, .val (.ref s.heap.size)] [.ref s.heap.size, .ref a])) := (c12.trans (st13 _ (Steps.refl _))).trans (by
    refine XS.aloadN X13.here hexec rfl (hb hbytes d51) rfl rfl ?_
    refine XS.aload X13.here hexec rfl (hb hbytes d52) rfl rfl ?_
    exact Steps.refl _)
  obtain ⟨T15, X15, p15, bl15, sl15, st15⟩ := X13.finit hexec hown (wk W (.fieldLink "java/lang/String" 9 "java/lang/String" "value" "[B")) (Or.inr ⟨_, (wk W (.laysFinal "java/lang/String" "java/lang/String" "value" "[B"))⟩) (Or.inl ⟨rfl, hnm⟩) f1 (Or.inl rfl) bl13 (t := (.array .byte)) (by decide +kernel) rfl (g := (mkF m 54 #[.val (.ref a), .val (.ref b), .val (.int (Int32.ofNat o)), .val (.int (Int32.ofNat len)), .val .null, .val (.ref s.heap.size)] [.ref s.heap.size, .ref a])) rfl (rest := []) rfl (hb hbytes d54)
  have c16 : Steps p.tables e below (s₁.setTop (entryFrame m #[.ref a, .ref b, .int (Int32.ofNat o), .int (Int32.ofNat len), .null] 6)) (T15.setTop (mkF m 57 #[.val (.ref a), .val (.ref b), .val (.int (Int32.ofNat o)), .val (.int (Int32.ofNat len)), .val .null, .val (.ref s.heap.size)] [])) := c14.trans (st15 _ (Steps.refl _))
  have ap := apart (Or.inr ⟨_, (wk W (.laysFinal "java/lang/String" "java/lang/String" "value" "[B"))⟩) (Or.inr ⟨_, (wk W (.laysFinal "java/lang/String" "java/lang/String" "coder" "B"))⟩) f1 f2 (t₁ := .array .byte) (t₂ := .byte) (by decide +kernel) (by decide +kernel) (by decide)
  have al := X8.warmed.alike.symm.trans X15.warmed.alike
  have n7 : T11.heap[s.heap.size]? = some N := by rw [q11]; exact n1.1
  exact ⟨T15, none, _, _, _, X15, by simp, rfl, by omega, (fun _ => rfl), ⟨rfl, _, N, bl15, ((Same.refl D _).set _ (by simp)).set _ (by simp), sl15, (Cell.slots_setSlot_ne _ ap).trans sl13, n1.keep al (p15.other hne (p13.other hne n7)), n2, by rw [al.findClass]; exact n3, n4, n5, fun y c h1 h2 => p15.other h1 (p13.other h1 (by rw [q11]; exact n6 y c h2)), by rw [p15.2.2, p13.2.2, q11]; exact z8⟩, fun fs hl => c16.trans (X15.returnOut hexec hret (hb hbytes d57) hl)⟩
end New4
namespace New1
def yN : MethodName := ⟨"java/lang/String", "<init>", "([C)V"⟩
abbrev yB : ByteArray := jdk_42_method_3_code
theorem d0 : decode yB 0 = .ok (.aload_n 0, 1) := by decide +kernel
theorem d1 : decode yB 1 = .ok (.aload_n 1, 1) := by decide +kernel
theorem d2 : decode yB 2 = .ok (.iconst 0, 1) := by decide +kernel
theorem d3 : decode yB 3 = .ok (.aload_n 1, 1) := by decide +kernel
theorem d4 : decode yB 4 = .ok (.arraylength, 1) := by decide +kernel
theorem d5 : decode yB 5 = .ok (.aconst_null, 1) := by decide +kernel
theorem d6 : decode yB 6 = .ok (.invokespecial 27, 3) := by decide +kernel
theorem d9 : decode yB 9 = .ok (.return_, 1) := by decide +kernel
def site : List Cond := [New4.tab] ++ initW "java/lang/String" 27 New4.yN
def tab : Cond := tabOf yN yB 2 none site
def P (a : Addr) (D : Cell) (fV fC : Field) (b : Addr) (A : Cell) (z : Int32) (args : Array Value) (s : State) : Prop := args = #[.ref a, .ref b] ∧ Blank "java/lang/String" a D s ∧ Found "java/lang/String" "value" "[B" fV s ∧ Found "java/lang/String" "coder" "B" fC s ∧ Ch b A s ∧ StaticIs s "java/lang/String" "COMPACT_STRINGS" "Z" (.int z) ∧ ¬ z = 0 ∧ 0 < A.slots.size ∧ A.slots.size ≤ 536870912 ∧ ∀ i, i < A.slots.size → ¬ 255 < cv A i
def E (a : Addr) (D : Cell) (fV fC : Field) (A : Cell) (r : Option Value) (s u : State) : Prop := Got a D fV fC A 0 A.slots.size r s u
/-- new String(chars), not empty, no char above 255: a Latin-1 String of their low bytes -/
theorem law (l : Launch) (a : Addr) (D : Cell) (fV fC : Field) (b : Addr) (A : Cell) (z : Int32) : Law l yN 2 1 3 52 yB 2 none site (P a D fV fC b A z) (E a D fV fC A) [⟨a, fC.slot⟩, ⟨a, fV.slot⟩] 1 A.slots.size := by
  refine Law.of_walk (plainFor_of_name (by decide +kernel)) (by decide +kernel) (by decide +kernel) (by decide) (fun _ _ h => by rw [h.1]; rfl) (fun _ U U' hal hh h => ⟨h.1, h.2.1.mv hal hh, h.2.2.1.al hal, h.2.2.2.1.al hal, h.2.2.2.2.1.mv hal hh, h.2.2.2.2.2.1.there hal hh, h.2.2.2.2.2.2⟩) (fun r U U' V V' h1 hal h2 h => Got.mv r U U' V V' h1 hal h2 h) ?_
  intro p e s m args below meth c s₁ X0 hexec hbytes hml hret hlk hnm hown hh0 W hP
  obtain ⟨rfl, hB, f1, f2, hA, s1, hz, l0, l2, hp⟩ := hP
  have c1 : Steps p.tables e below (s₁.setTop (entryFrame m #[.ref a, .ref b] 2)) (s₁.setTop (mkF m 0 #[.val (.ref a), .val (.ref b)] [])) := entry rfl
  have c2 : Steps p.tables e below (s₁.setTop (entryFrame m #[.ref a, .ref b] 2)) (s₁.setTop (mkF m 6 #[.val (.ref a), .val (.ref b)] [.null, .int (Int32.ofNat A.slots.size), .int 0, .ref b, .ref a])) := c1.trans (by
    refine XS.aloadN X0.here hexec rfl (hb hbytes d0) rfl rfl ?_
    refine XS.aloadN X0.here hexec rfl (hb hbytes d1) rfl rfl ?_
    refine iconstV X0.here hexec rfl 0 (hb hbytes d2) (by decide) ?_
    refine XS.aloadN X0.here hexec rfl (hb hbytes d3) rfl rfl ?_
    refine X0.alen hexec (hA.1.mv X0.warmed.alike hh0) rfl rfl (hb hbytes d4) ?_
    refine XS.aconstNull X0.here hexec rfl (hb hbytes d5) ?_
    exact Steps.refl _)
  obtain ⟨v3, T3, X3, E3, g3⟩ := X0.callN hexec (New4.law l a D fV fC b A z 0 A.slots.size) rfl hown (wks W (initW "java/lang/String" 27 New4.yN)) (W New4.tab (by simp only [site, List.mem_cons, List.mem_append, true_or, or_true])) (W := 0) (Nat.le_of_ble_eq_true rfl) (Nat.le_of_ble_eq_true rfl) (Nat.le_refl _) (by show 0 + A.slots.size ≤ A.slots.size; omega) (g := (mkF m 6 #[.val (.ref a), .val (.ref b)] [.null, .int (Int32.ofNat A.slots.size), .int (Int32.ofNat 0), .ref b, .ref a])) rfl (by rw [hml]; rfl) c2 (argsL := [.ref b, .int (Int32.ofNat 0), .int (Int32.ofNat A.slots.size), .null]) (rest := []) rfl rfl (by show 2 * 0 + 0 ≤ _; decide) (hb hbytes d6) (⟨rfl, hB.mv X0.warmed.alike hh0, f1.al X0.warmed.alike, f2.al X0.warmed.alike, hA.mv X0.warmed.alike hh0, s1.there X0.warmed.alike hh0, hz, l0, by omega, l2, fun i hi => by rw [Nat.zero_add]; exact hp i hi⟩)
  have e0 := Got.mv _ s₁ s _ _ hh0.symm (Vm.Alike.refl _) rfl E3
  obtain rfl := e0.1
  have c4 : Steps p.tables e below (s₁.setTop (entryFrame m #[.ref a, .ref b] 2)) (T3.setTop (mkF m 9 #[.val (.ref a), .val (.ref b)] [])) := g3
  exact ⟨T3, none, _, _, _, X3, by simp, rfl, by omega, (fun _ => rfl), e0, fun fs hl => c4.trans (X3.returnOut hexec hret (hb hbytes d9) hl)⟩
theorem pays {l : Launch} {R : Room} {p : Program} {e : Env} {below : List Frame} {s : State} {sargs : Array Value} {len W : Nat} (a : Addr) (D : Cell) (fV fC : Field) (b : Addr) (A : Cell) (z : Int32) (htab : tab.before sargs s = true) (hfr : 4 ≤ R.frames) (hlo : W + 65 ≤ R.locals) :
    Back l R p e below s sargs yN len W (fun A₁ a₁ => A₁.cells + 1 ≤ R.cells ∧ A₁.slots + A.slots.size ≤ R.slots ∧ P a D fV fC b A z a₁ A₁.U) (fun A₁ _ v₁ B₁ => E a D fV fC A v₁ A₁.U B₁.U ∧ B₁.locs = A₁.locs ++ [⟨a, fC.slot⟩, ⟨a, fV.slot⟩] ∧ B₁.cells = A₁.cells + 1 ∧ B₁.slots = A₁.slots + A.slots.size) :=
  (law l a D fV fC b A z).pays htab hfr (by omega)
end New1
end StrChars
namespace StrChars.Road
open Jvm Sem ClassFile Op Lib Jvm.Stand Jvm.Free Jvm.Free.XT
open Jvm.Lib.Cold (StaticIs)
abbrev ST : String := "java/lang/String"
/-- every table word that New1's law asks, flat -/
abbrev words : List Jvm.Cond := [.code New1.yN New1.yB 2 none, .initialized ST, .methodLink ST 27 New4.yN, .instanceMethod New4.yN,
  .code New4.yN New4.yB 6 none, .fieldLink ST 38 ST "COMPACT_STRINGS" "Z", .laysFinal ST ST "value" "[B", .fieldLink ST 9 ST "value" "[B", .laysFinal ST ST "coder" "B", .fieldLink ST 15 ST "coder" "B",
  .methodLink ST 1 Lib.objectInit, .instanceMethod Lib.objectInit, .code Lib.objectInit ⟨#[0xb1]⟩ 1 none, .methodLink ST 177 Cmp3.yN, .static Cmp3.yN, .methodLink ST 47 CodL.yN, .static CodL.yN,
  .code Cmp3.yN Cmp3.yB 6 (some (.array .byte)), .initialized U16, .arrayClass .byte, .methodLink U16 115 Cmp5.yN, .static Cmp5.yN, .code Cmp5.yN Cmp5.yB 7 (some .int), .code CodL.yN CodL.yB 2 (some .byte)]
theorem tab_of {a : Array Value} {s : State} (h : ∀ w ∈ words, w.before a s = true) : New1.tab.before a s = true := by
  have h5 : Cmp5.tab.before a s = true := unparts (wk h (.code Cmp5.yN Cmp5.yB 7 (some .int))) (wks h (.initialized Cmp5.yN.cls :: Cmp5.site))
  have hc : CodL.tab.before a s = true := unparts (wk h (.code CodL.yN CodL.yB 2 (some .byte))) (wks h (.initialized CodL.yN.cls :: CodL.site))
  have q5 : ∀ w ∈ Cmp5.tab :: words, w.before a s = true := fun w hw => (List.mem_cons.mp hw).elim (fun e => e ▸ h5) (h w)
  have h3 : Cmp3.tab.before a s = true := unparts (wk q5 (.code Cmp3.yN Cmp3.yB 6 (some (.array .byte)))) (wks q5 (.initialized Cmp3.yN.cls :: Cmp3.site))
  have q3 : ∀ w ∈ Cmp3.tab :: CodL.tab :: words, w.before a s = true := fun w hw => (List.mem_cons.mp hw).elim (fun e => e ▸ h3) fun hw => (List.mem_cons.mp hw).elim (fun e => e ▸ hc) (h w)
  have h4 : New4.tab.before a s = true := unparts (wk q3 (.code New4.yN New4.yB 6 none)) (wks q3 (.initialized New4.yN.cls :: New4.site))
  have q4 : ∀ w ∈ New4.tab :: words, w.before a s = true := fun w hw => (List.mem_cons.mp hw).elim (fun e => e ▸ h4) (h w)
  exact unparts (wk q4 (.code New1.yN New1.yB 2 none)) (wks q4 (.initialized New1.yN.cls :: New1.site))
/-- the words ride from the start Z to the walk's own state -/
theorem moved {Z s : State} {a0 args : Array Value} (hZ : Z.Warmed39 s.vm) (hw : ∀ d ∈ words, d.before a0 Z = true) : ∀ d ∈ words, d.before args s = true := fun d hd => by
  have q := hw d hd
  have t : ∀ d ∈ words, d = .arrayClass .byte ∨ (d.onTables && d.keepsFace) = true := by decide +kernel
  rcases t d hd with rfl | t
  · exact RoadKit.mvA hZ q
  · exact RoadKit.mv hZ q t
/-- WHAT COMES BACK, over the tables of the start Z: h the heap at the call, h' behind it -/
def Q (Z : State) (x : Addr) (A : Cell) (h : Heap) (v : Option Value) (h' : Heap) (L : List Loc) : Prop := v = none ∧ (∀ y ∈ L, y.base = x) ∧ RoadKit.Keep h h' [x] ∧ h'.size = h.size + 1 ∧ RoadKit.Exa Z h' x ST ∧ RoadKit.Fld Z h' x ST "value" "[B" (.ref h.size) ∧ RoadKit.Fld Z h' x ST "coder" "B" (.int 0) ∧
  (∃ V : Cell, RoadKit.Arr Z h' h.size V .byte ∧ V.vm = .none ∧ Z.vm.findClass "[B" = some V.cls ∧ V.slots.size = A.slots.size ∧ ∀ j, j < A.slots.size → V.slots[j]? = some (.int (lo8 (cv A j)))) ∧
  ∀ (O n d : String) (w : Value), RoadKit.Fld Z h x O n d w → RoadKit.slotOf Z O n d ≠ RoadKit.slotOf Z ST "value" "[B" → RoadKit.slotOf Z O n d ≠ RoadKit.slotOf Z ST "coder" "B" → RoadKit.Fld Z h' x O n d w
/-- **new String(chars) AT A CALL, IN THE ROAD'S FORM**: for specialBack behind newO: x the fresh String, b the char[] with the cell A -/
theorem back {p : Program} {l : Launch} {e : Env} {R : Room} {s : State} {args : Array Value} {below : List Frame} {len W : Nat} {Z : State} {a0 : Array Value} {h : Heap} (hZ : Z.Warmed39 s.vm) (hw : ∀ d ∈ words, d.before a0 Z = true) {kI : Nat} (wi : (Jvm.Cond.instantiable ST kI).before a0 Z = true)
    {x b : Addr} {A : Cell} {z : Int32} {v0 c0 : Value} (E : RoadKit.Exa Z h x ST) (V : RoadKit.Fld Z h x ST "value" "[B" v0) (C : RoadKit.Fld Z h x ST "coder" "B" c0) (K : RoadKit.Arr Z h b A .char) (hty : Typed .char A) (S : RoadKit.Sta Z h ST "COMPACT_STRINGS" "Z" (.int z)) (hz : ¬ z = 0)
    (l0 : 0 < A.slots.size) (l2 : A.slots.size ≤ 536870912) (hp : ∀ i, i < A.slots.size → ¬ 255 < cv A i) (hfr : 4 ≤ R.frames) (hlo : W + 65 ≤ R.locals) :
    Back l R p e below s args New1.yN len W (fun P a => a = #[.ref x, .ref b] ∧ P.U.heap = h ∧ P.cells + 1 ≤ R.cells ∧ P.slots + A.slots.size ≤ R.slots)
      (fun P _ v B => ∃ L, Q Z x A h v B.U.heap L ∧ B.locs = P.locs ++ L ∧ B.cells = P.cells + 1 ∧ B.slots = P.slots + A.slots.size) := by
  intro m meth c P g ig mk a X hg hsize hdg hW hn hp'
  obtain ⟨rfl, rfl, r1, r2⟩ := hp'
  have al : Z.vm.Alike P.U.vm := hZ.alike.trans X.warmed.alike
  obtain ⟨D, cfV, kV, iV, fV, hD, gV, stV, knV, obV, asV, slV⟩ := id V
  obtain ⟨D', cfC, kC, iC, fC, hD', gC, stC, -, -, asC, slC⟩ := id C
  cases hD.symm.trans hD'
  obtain ⟨D2, kD, e1, e2, e3, e4, e5⟩ := id E
  cases hD.symm.trans e1
  obtain ⟨c2, k2, i1, i2, i3, -⟩ := Cond.instantiable_spec wi
  cases e2.symm.trans i1
  cases e3.symm.trans i2
  obtain ⟨kU, u1, u2⟩ := al.2.2 _ _ e3
  have hB : Blank ST x D P.U := ⟨hD, ⟨knV, fun q hq => by rw [hq] at obV; cases obV⟩, by rw [al.findClass]; exact e2, kU, u1, by rw [u2]; exact i3, by rw [u2]; exact e5 i3⟩
  have F1 : Found ST "value" "[B" fV P.U := ⟨SBG.found_only al ⟨cfV, kV, iV, gV⟩, stV⟩
  have F2 : Found ST "coder" "B" fC P.U := ⟨SBG.found_only al ⟨cfC, kC, iC, gC⟩, stC⟩
  have hA : Ch b A P.U := ⟨⟨K.1, State.isArrayOf_alike al K.2.1, K.2.2, by omega⟩, hty⟩
  have hS : StaticIs P.U ST "COMPACT_STRINGS" "Z" (.int z) := by
    obtain ⟨cfS, iS, kS, fS, st, cS, t1, t2, t3, t4, t5, t6, t7⟩ := S
    exact StaticIs.there (s := { Z with heap := P.U.heap }) ⟨cfS, iS, kS, fS, st, cS, t1, t2, t3, t4, t5, (fun q => by rw [q] at t6; cases t6), t7⟩ al rfl
  obtain ⟨v, B, X', ⟨⟨hv, E', V', q1, q2, q3, q4, q5, q6, q7, q8, q9, q10, q11⟩, hl, hc, hs⟩, st⟩ := New1.pays x D fV fC b A z (tab_of (moved hZ hw)) hfr hlo m meth c P g ig mk _ X hg hsize hdg hW hn ⟨r1, r2, rfl, hB, F1, F2, hA, hS, hz, l0, l2, hp⟩
  have al' : Z.vm.Alike B.U.vm := hZ.alike.trans X'.warmed.alike
  have hsz : E'.slots.size = D.slots.size := by
    obtain ⟨-, -, -, kB, w1, w2, w3⟩ := q1
    obtain ⟨kB', y1, y2⟩ := al'.2.2 _ _ e3
    rw [q2.2.1] at w1
    cases w1.symm.trans y1
    rw [w3, e5 i3, y2]
  refine ⟨v, B, X', ⟨_, ⟨hv, ?_, ⟨by omega, fun y cy hy hn' => q10 y cy (by simpa using hn') hy, fun y cy hy => ?_⟩, q11, ⟨E', _, q1.1, by rw [q2.2.1]; exact e2, by rw [q2.2.1]; exact e3, by rw [q2.1]; exact obV, fun _ => by rw [hsz]; exact e5 i3⟩,
    ⟨E', cfV, kV, iV, fV, q1.1, gV, stV, by rw [q2.1]; exact knV, by rw [q2.1]; exact obV, by rw [q2.2.1]; exact asV, q3⟩, ⟨E', cfC, kC, iC, fC, q1.1, gC, stC, by rw [q2.1]; exact knV, by rw [q2.1]; exact obV, by rw [q2.2.1]; exact asC, q4⟩,
    ⟨V', ⟨q5.1, State.isArrayOf_alike al'.symm q5.2.1, q5.2.2.1⟩, q6, by rw [← al'.findClass]; exact q7, q8, fun j hj => by have := q9 j hj; rwa [Nat.zero_add] at this⟩, fun O n d w F n1 n2 => ?_⟩, hl, hc, hs⟩, st⟩
  · intro y hy
    simp only [List.mem_cons, List.not_mem_nil, or_false] at hy
    rcases hy with rfl | rfl <;> rfl
  · by_cases q : y = x
    · subst q
      cases hD.symm.trans hy
      exact ⟨E', q1.1, q2.2.1, q2.1, hsz⟩
    · exact ⟨cy, q10 y cy q hy, rfl, rfl, rfl⟩
  · obtain ⟨D3, cf, k, i, f, g1, g2, g3, g4, g5, g6, g7⟩ := F
    cases hD.symm.trans g1
    simp only [RoadKit.slotOf, g2, gV, gC, Option.map_some, Option.getD_some] at n1 n2
    exact ⟨E', cf, k, i, f, q1.1, g2, g3, by rw [q2.1]; exact g4, by rw [q2.1]; exact g5, by rw [q2.2.1]; exact g6, by rw [q2.2.2 f.slot (by simp [n1, n2])]; exact g7⟩
end StrChars.Road
namespace StrChars.Road
open Jvm Sem ClassFile Op Lib Jvm.Stand Jvm.Free Jvm.Free.XT
/-- WHAT COMES BACK, the byte[] as a list of values -/
def QA (Z : State) (x : Addr) (zn : Int32) (cs : List Int32) (h : Heap) (v : Option Value) (h' : Heap) (L : List Loc) : Prop := v = none ∧ (∀ y ∈ L, y.base = x) ∧ RoadKit.Keep h h' [x] ∧ h'.size = h.size + 1 ∧ RoadKit.Exa Z h' x ST ∧ RoadKit.Fld Z h' x ST "value" "[B" (.ref h.size) ∧ RoadKit.Fld Z h' x ST "coder" "B" (.int 0) ∧
  (∃ kb, Z.vm.findClass "[B" = some kb ∧ RoadKit.Arv Z h' h.size kb .byte zn (cs.map fun c => .int (lo8 c)) (.int 0)) ∧
  ∀ (O n d : String) (w : Value), RoadKit.Fld Z h x O n d w → RoadKit.slotOf Z O n d ≠ RoadKit.slotOf Z ST "value" "[B" → RoadKit.slotOf Z O n d ≠ RoadKit.slotOf Z ST "coder" "B" → RoadKit.Fld Z h' x O n d w
/-- **new String(chars) AT A CALL, THE ARRAYS AS LISTS**: the char[] at b holds cs, not empty, no char above 255 -/
theorem backArv {p : Program} {l : Launch} {e : Env} {R : Room} {s : State} {args : Array Value} {below : List Frame} {len W : Nat} {Z : State} {a0 : Array Value} {h : Heap} (hZ : Z.Warmed39 s.vm) (hw : ∀ d ∈ words, d.before a0 Z = true) {kI : Nat} (wi : (Jvm.Cond.instantiable ST kI).before a0 Z = true)
    {x b : Addr} {k : ClassId} {zn z : Int32} {cs : List Int32} {dv v0 c0 : Value} (E : RoadKit.Exa Z h x ST) (V : RoadKit.Fld Z h x ST "value" "[B" v0) (C : RoadKit.Fld Z h x ST "coder" "B" c0) (K : RoadKit.Arv Z h b k .char zn (cs.map Value.int) dv) (S : RoadKit.Sta Z h ST "COMPACT_STRINGS" "Z" (.int z)) (hz : ¬ z = 0)
    (hlen : zn.toNatClampNeg = cs.length) (h0 : 0 < cs.length) (hbig : cs.length ≤ 536870912) (hall : ∀ c ∈ cs, ¬ 255 < c) (hfr : 4 ≤ R.frames) (hlo : W + 65 ≤ R.locals) :
    Back l R p e below s args New1.yN len W (fun P a => a = #[.ref x, .ref b] ∧ P.U.heap = h ∧ P.cells + 1 ≤ R.cells ∧ P.slots + cs.length ≤ R.slots)
      (fun P _ v B => ∃ L, QA Z x zn cs h v B.U.heap L ∧ B.locs = P.locs ++ L ∧ B.cells = P.cells + 1 ∧ B.slots = P.slots + cs.length) := by
  obtain ⟨A, K1, K2, K3, K4, K5, K6⟩ := K
  have e : A.slots.size = cs.length := K3.trans hlen
  have hat : ∀ (i : Nat) (hi : i < cs.length), A.slots[i]? = some (.int cs[i]) := fun i hi => by rw [K5 i (by omega)]; simp [List.getD_eq_getElem?_getD, hi]
  have hcv : ∀ (i : Nat) (hi : i < cs.length), cv A i = cs[i] := fun i hi => by unfold cv; rw [hat i hi]
  have hty : Typed .char A := fun i v hv => by
    have hi : i < A.slots.size := (Array.getElem?_eq_some_iff.mp hv).1
    have q := K5 i hi
    rw [hv] at q
    rw [Option.some.inj q]
    exact K6 i hi
  refine Back.mono (back hZ hw wi E V C K1 hty S hz (by omega) (by omega) (fun i hi => by rw [hcv i (by omega)]; exact hall _ (List.getElem_mem _)) hfr hlo) (fun P a hp => ⟨hp.1, hp.2.1, hp.2.2.1, by rw [e]; exact hp.2.2.2⟩) (fun P a v B hp hq => ?_)
  obtain ⟨L, ⟨q1, q2, q3, q4, q5, q6, q7, ⟨V', v1, v2, v3, v4, v5⟩, q9⟩, hl, hc, hs⟩ := hq
  refine ⟨L, ⟨q1, q2, q3, q4, q5, q6, q7, ⟨V'.cls, v3, V', v1, rfl, by rw [v4, e, hlen], K4, fun i hi => ?_, fun i hi => ?_⟩, q9⟩, hl, hc, by rw [hs, e]⟩
  · have hi' : i < cs.length := by omega
    rw [v5 i (by omega), hcv i hi']; simp [List.getD_eq_getElem?_getD, hi']
  · have hi' : i < cs.length := by omega
    simp only [List.getD_eq_getElem?_getD, List.getElem?_map, List.getElem?_eq_getElem hi', Option.map_some, Option.getD_some]
    exact fits_lo8 _
end StrChars.Road
namespace StrChars.Road
open Jvm Sem ClassFile Op Lib Jvm.Stand Jvm.Free Jvm.Free.XT
/-- WHAT COMES BACK, in the writer's own shape -/
def QV (Z : State) (x : Addr) (N : Int32) (bs : List Int32) (h : Heap) (n0 : Nat) (v : Option Value) (h' : Heap) (L : List Loc) : Prop := v = none ∧ RoadKit.Fr n0 L ∧ RoadKit.Keep h h' [x] ∧ RoadKit.Exa Z h' x ST ∧ RoadKit.Fld Z h' x ST "coder" "B" (.int 0) ∧
  ∃ (t : Addr) (kb : ClassId), n0 ≤ t ∧ h.size ≤ t ∧ ¬ t = x ∧ RoadKit.Fld Z h' x ST "value" "[B" (.ref t) ∧ RoadKit.Arv Z h' t kb .byte N (bs.map Value.int) (.int 0)
/-- **new String(chars) AT A CALL, FOR THE WRITER**: a char[] of n known ints, each 0 to 255 -/
theorem backV {p : Program} {l : Launch} {e : Env} {R : Room} {s : State} {args : Array Value} {below : List Frame} {len W : Nat} {Z : State} {a0 : Array Value} {h : Heap} (hZ : Z.Warmed39 s.vm) (hw : ∀ d ∈ words, d.before a0 Z = true) {kI : Nat} (wi : (Jvm.Cond.instantiable ST kI).before a0 Z = true)
    {x b : Addr} {kC : ClassId} {cs bs : List Int32} {d v0 c0 : Value} {z N : Int32} {n n0 : Nat} (hx0 : n0 ≤ x) (hh0 : n0 ≤ h.size) (E : RoadKit.Exa Z h x ST) (V : RoadKit.Fld Z h x ST "value" "[B" v0) (C : RoadKit.Fld Z h x ST "coder" "B" c0) (K : RoadKit.Arv Z h b kC .char N (cs.map Value.int) d) (S : RoadKit.Sta Z h ST "COMPACT_STRINGS" "Z" (.int z)) (hz : ¬ z = 0)
    (hn : cs.length = n) (hN : N = Int32.ofNat n) (l0 : 0 < n) (l2 : n ≤ 4000) (hp : ∀ c ∈ cs, ¬ c < 0 ∧ ¬ (255 : Int32) < c) (hb : bs = cs.map (fun c => c.toInt8.toInt32)) (hfr : 4 ≤ R.frames) (hlo : W + 65 ≤ R.locals) :
    Back l R p e below s args (⟨"java/lang/String", "<init>", "([C)V"⟩ : MethodName) len W (fun P a => a = #[.ref x, .ref b] ∧ P.U.heap = h ∧ P.cells + 1 ≤ R.cells ∧ P.slots + n ≤ R.slots)
      (fun P _ v B => ∃ L, QV Z x N bs h n0 v B.U.heap L ∧ B.locs = P.locs ++ L ∧ B.cells = P.cells + 1 ∧ B.slots = P.slots + n) := by
  subst hn hN hb
  refine Back.mono (backArv hZ hw wi E V C K S hz (n32 (by omega)) l0 (by omega) (fun c hc => (hp c hc).2) hfr hlo) (fun P a hp => hp) (fun P a v B hp hq => ?_)
  obtain ⟨L, ⟨q1, q2, q3, q4, q5, q6, q7, ⟨kb, v1, v2⟩, q9⟩, hl, hc, hs⟩ := hq
  exact ⟨L, ⟨q1, fun y hy => by rw [q2 y hy]; exact hx0, q3, q5, q7, h.size, kb, hh0, Nat.le_refl _, Nat.ne_of_gt E.lt, q6, by rw [List.map_map]; exact v2⟩, hl, hc, hs⟩
end StrChars.Road
end Jvm.Pilot.@@N@@
namespace Jvm.Pilot.@@N@@
open Jvm Jvm.ClassFile Sem Op Lib Jvm.Free Jvm.Stand Jvm.LawKit Jvm.RoadKit Bundle Jvm.Pilot.@@N@@.Jvm.D
def Go (p : Program) (e : Env) (below : List Frame) (s : State) (Q : Option Value → Heap → List Loc → Prop) (rc rs : Nat) (S : State) : Prop :=
  ∃ s₂ o, Steps p.tables e below S s₂ ∧ s₂.status = .running ∧ Ended s₂ below o ∧ ∃ v L, o = .returned v ∧ Q v s₂.heap L ∧ FrameEnd s o s₂ L rc rs
section OwnGo
variable {p : Program} {l : Launch} {e : Env} {R : Room} {s : State} {m : MethodId} {args : Array Value} {below : List Frame} {meth : Method} {c : Code} {T : State} {locs : List Loc} {cells slots : Nat} {Q : Option Value → Heap → List Loc → Prop} {rc rs : Nat}
theorem Go.via {S S' : State} (h : ∀ t, Steps p.tables e below S' t → Steps p.tables e below S t) (g : Go p e below s Q rc rs S') : Go p e below s Q rc rs S :=
  let ⟨s₂, o, a, b⟩ := g; ⟨s₂, o, h _ a, b⟩
theorem Go.retI (X : Stand p l e R s m args below meth c T locs cells slots) (hx : p.tables.exec = Jvm.exec) (hlk : meth.locks = false) {pc : Nat} {Ls : Array Slot} {z : Int32} {rest : List Value} (hret : meth.sig.returnType = some .int) (hd : decode c.code pc = .ok (.ireturn, 1))
    (hq : Q (some (.int z)) T.heap locs) (hc : cells ≤ rc) (hs : slots ≤ rs) : Go p e below s Q rc rs (T.setTop (mkF m pc Ls (.int z :: rest))) := by
  obtain ⟨fs, hr, hrun, hended, hW, hsame⟩ := X.leave (v := some (.int z)) (fun h => by rw [hret] at h; cases h)
  exact ⟨_, _, retOut X hx hret rfl (Or.inl ⟨rfl, Or.inl rfl, _, rfl⟩) hd hr, hrun, hended, _, _, rfl, hq, ⟨_, rfl⟩, hW, hsame.mono hc hs⟩
theorem Go.retB (X : Stand p l e R s m args below meth c T locs cells slots) (hx : p.tables.exec = Jvm.exec) (hlk : meth.locks = false) {pc : Nat} {Ls : Array Slot} {z : Int32} {rest : List Value} (hret : meth.sig.returnType = some .boolean) (hd : decode c.code pc = .ok (.ireturn, 1)) (hz : narrow .boolean (.int z) = .int z)
    (hq : Q (some (.int z)) T.heap locs) (hc : cells ≤ rc) (hs : slots ≤ rs) : Go p e below s Q rc rs (T.setTop (mkF m pc Ls (.int z :: rest))) := by
  obtain ⟨fs, hr, hrun, hended, hW, hsame⟩ := X.leave (v := some (.int z)) (fun h => by rw [hret] at h; cases h)
  exact ⟨_, _, retOut X hx hret hz (Or.inl ⟨rfl, Or.inr (Or.inl rfl), _, rfl⟩) hd hr, hrun, hended, _, _, rfl, hq, ⟨_, rfl⟩, hW, hsame.mono hc hs⟩
theorem Go.retC (X : Stand p l e R s m args below meth c T locs cells slots) (hx : p.tables.exec = Jvm.exec) (hlk : meth.locks = false) {pc : Nat} {Ls : Array Slot} {z : Int32} {rest : List Value} (hret : meth.sig.returnType = some .char) (hd : decode c.code pc = .ok (.ireturn, 1)) (hz : narrow .char (.int z) = .int z)
    (hq : Q (some (.int z)) T.heap locs) (hc : cells ≤ rc) (hs : slots ≤ rs) : Go p e below s Q rc rs (T.setTop (mkF m pc Ls (.int z :: rest))) := by
  obtain ⟨fs, hr, hrun, hended, hW, hsame⟩ := X.leave (v := some (.int z)) (fun h => by rw [hret] at h; cases h)
  exact ⟨_, _, retOut X hx hret hz (Or.inl ⟨rfl, Or.inr (Or.inr (Or.inr (Or.inl rfl))), _, rfl⟩) hd hr, hrun, hended, _, _, rfl, hq, ⟨_, rfl⟩, hW, hsame.mono hc hs⟩
theorem Go.retJ (X : Stand p l e R s m args below meth c T locs cells slots) (hx : p.tables.exec = Jvm.exec) (hlk : meth.locks = false) {pc : Nat} {Ls : Array Slot} {z : Int64} {rest : List Value} (hret : meth.sig.returnType = some .long) (hd : decode c.code pc = .ok (.lreturn, 1))
    (hq : Q (some (.long z)) T.heap locs) (hc : cells ≤ rc) (hs : slots ≤ rs) : Go p e below s Q rc rs (T.setTop (mkF m pc Ls (.long z :: rest))) := by
  obtain ⟨fs, hr, hrun, hended, hW, hsame⟩ := X.leave (v := some (.long z)) (fun h => by rw [hret] at h; cases h)
  exact ⟨_, _, retOut X hx hret rfl (Or.inr (Or.inl ⟨rfl, rfl, _, rfl⟩)) hd hr, hrun, hended, _, _, rfl, hq, ⟨_, rfl⟩, hW, hsame.mono hc hs⟩
theorem Go.retA (X : Stand p l e R s m args below meth c T locs cells slots) (hx : p.tables.exec = Jvm.exec) (hlk : meth.locks = false) {pc : Nat} {Ls : Array Slot} {z : Value} {rest : List Value} {t : FieldType} (hret : meth.sig.returnType = some t) (ht : t.isReference = true) (hz : z.isRef = true) (hn : narrow t z = z) (hd : decode c.code pc = .ok (.areturn, 1))
    (hq : Q (some z) T.heap locs) (hc : cells ≤ rc) (hs : slots ≤ rs) : Go p e below s Q rc rs (T.setTop (mkF m pc Ls (z :: rest))) := by
  obtain ⟨fs, hr, hrun, hended, hW, hsame⟩ := X.leave (v := some z) (fun h => by rw [hret] at h; cases h)
  exact ⟨_, _, retOut X hx hret hn (Or.inr (Or.inr (Or.inr (Or.inr ⟨rfl, ht, hz⟩)))) hd hr, hrun, hended, _, _, rfl, hq, ⟨_, rfl⟩, hW, hsame.mono hc hs⟩
theorem Go.retV (X : Stand p l e R s m args below meth c T locs cells slots) (hx : p.tables.exec = Jvm.exec) (hlk : meth.locks = false) {pc : Nat} {Ls : Array Slot} (hret : meth.sig.returnType = none) (hd : decode c.code pc = .ok (.return_, 1))
    (hq : Q none T.heap locs) (hc : cells ≤ rc) (hs : slots ≤ rs) : Go p e below s Q rc rs (T.setTop (mkF m pc Ls [])) := by
  obtain ⟨fs, hr, hrun, hended, hW, hsame⟩ := X.leave (v := none) (fun _ => rfl)
  exact ⟨_, _, X.returnOut hx hret hd hr, hrun, hended, _, _, rfl, hq, ⟨_, rfl⟩, hW, hsame.mono hc hs⟩
def GoW (p : Program) (e : Env) (below : List Frame) (s : State) (Q : Option Value → Heap → List Loc → Prop) (rc rs : Nat) (S : State) : Prop :=
  ∃ s₂ o, Steps p.tables e below S s₂ ∧ s₂.status = .running ∧ Ended s₂ below o ∧ ∃ v L, o = .returned v ∧ Q v s₂.heap L ∧ ReturnedEndW s o s₂ L rc rs
theorem GoW.via {S S' : State} (h : ∀ t, Steps p.tables e below S' t → Steps p.tables e below S t) (g : GoW p e below s Q rc rs S') : GoW p e below s Q rc rs S :=
  let ⟨s₂, o, a, b⟩ := g; ⟨s₂, o, h _ a, b⟩
theorem GoW.retB {vm₁ : Vm} (X : Stand p l e R (s.setVm vm₁) m args below meth c T locs cells slots) (hx : p.tables.exec = Jvm.exec) (hlk : meth.locks = false) {n : Nat} (hS : s.Since vm₁ n) (hn : n ≤ T.heap.size) {pc : Nat} {Ls : Array Slot} {z : Int32} {rest : List Value} (hret : meth.sig.returnType = some .boolean) (hd : decode c.code pc = .ok (.ireturn, 1)) (hz : narrow .boolean (.int z) = .int z)
    (hq : Q (some (.int z)) T.heap locs) (hc : cells ≤ rc) (hs : slots ≤ rs) : GoW p e below s Q rc rs (T.setTop (mkF m pc Ls (.int z :: rest))) := by
  obtain ⟨fs, hr, hrun, hended, hE⟩ := X.leaveW hS hn (v := some (.int z)) (fun h => by rw [hret] at h; cases h)
  exact ⟨_, _, retOut X hx hret hz (Or.inl ⟨rfl, Or.inr (Or.inl rfl), _, rfl⟩) hd hr, hrun, hended, _, _, rfl, hq, hE.1, hE.2.1, hE.2.2.1, hE.2.2.2.mono hc hs⟩
end OwnGo
theorem own_sel {s : State} {args : Array Value} {y : MethodName} {n : Nat} (wi : (Jvm.Cond.instantiable y.cls n).before args s = true) (hpriv : s.PrivateAt y) (hinst : (Jvm.Cond.instanceMethod y).before args s = true) (hy : y.cls ≠ "java/lang/invoke/MethodHandle" ∧ y.cls ≠ "java/lang/invoke/VarHandle") : (Jvm.Cond.selects y.cls y y).before args s = true := by
  obtain ⟨c, k, h1, h2, h3, h4, -⟩ := Cond.instantiable_spec wi
  have h5 : k.isInterface = false := by
    cases hq : k.isInterface
    · rfl
    · rw [hq] at h4; cases h4
  exact Jvm.Stand.selects_self_of_private h1 h2 h5 hpriv hinst hy
theorem own_lc1 {x y : Int64} (h : x < y) : lcmpW x y < 0 := (lw_lt x y).mpr h
theorem own_lc2 {x y : Int64} (h : ¬ x < y) : ¬ lcmpW x y < 0 := fun q => h ((lw_lt x y).mp q)
theorem own_lc3 {x y : Int64} (h : y < x) : 0 < lcmpW x y := (lw_gt x y).mpr h
theorem own_lc4 {x y : Int64} (h : ¬ y < x) : ¬ 0 < lcmpW x y := fun q => h ((lw_gt x y).mp q)
theorem own_lc5 {x y : Int64} (h : x = y) : lcmpW x y = 0 := (lw_eq x y).mpr h
theorem own_lc6 {x y : Int64} (h : ¬ x = y) : ¬ lcmpW x y = 0 := fun q => h ((lw_eq x y).mp q)
theorem own_root {Z : State} {a0 : Array Value} {O K : String} {n : Nat} (w : (Jvm.Cond.noSuperclass O).before a0 Z = true) (wk : (Jvm.Cond.instantiable K n).before a0 Z = true) (hn : O ≠ K) : NS Z O K := by
  obtain ⟨c, k, h1, h2, h3, -, -⟩ := Cond.noSuperclass_spec w
  obtain ⟨t, kt, g1, -⟩ := Cond.instantiable_spec wk
  have ne := ids_ne h1 g1 hn
  refine ⟨c, t, h1, g1, fun fuel => ?_⟩
  cases fuel with
  | zero => rfl
  | succ f => simp [Vm.isSubclassAux, ne, h2, h3]
theorem own_no {Z : State} {a0 : Array Value} {C S K : String} {n : Nat} (w : (Jvm.Cond.superclass C S).before a0 Z = true) (wk : (Jvm.Cond.instantiable K n).before a0 Z = true) (nn : NS Z C K) (hn : C ≠ K) : ∃ c t, Z.vm.findClass C = some c ∧ Z.vm.findClass K = some t ∧ Z.vm.assignable c t = false := by
  obtain ⟨c, t, h0, g0, n3⟩ := nn
  obtain ⟨p, k, kp, h1, h2, h3, h4, h5, -, h7⟩ := Cond.superclass_spec h0 w
  obtain ⟨t', kt, g1, g2, g5, g7, -⟩ := Cond.instantiable_spec wk
  cases g0.symm.trans g1
  have ne := ids_ne h0 g0 hn
  have g8 : kt.isInterface = false := by
    cases hq : kt.isInterface
    · rfl
    · rw [hq] at g7; cases g7
  refine ⟨c, t, h0, g0, ?_⟩
  show Z.vm.assignableAux (255 + 1) c t = false
  simp [Vm.assignableAux, ne, h2, g2, h5, g5, g8, Vm.isSubclass, n3]
theorem and255_chars (x : Int32) : ¬ nar .char ((x &&& (255 : Int32)).toUInt32.toUInt16.toUInt32.toInt32) < 0 ∧ ¬ (255 : Int32) < nar .char ((x &&& (255 : Int32)).toUInt32.toUInt16.toUInt32.toInt32) := by
  have t : ∀ k : Fin 256, ¬ nar .char ((Int32.ofNat k.val).toUInt32.toUInt16.toUInt32.toInt32) < 0 ∧ ¬ (255 : Int32) < nar .char ((Int32.ofNat k.val).toUInt32.toUInt16.toUInt32.toInt32) := by decide +kernel
  have h : (x &&& 255).toBitVec.toNat < 256 := by
    simp only [Int32.toBitVec_and, BitVec.toNat_and]
    exact Nat.lt_succ_of_le Nat.and_le_right
  have e : (x &&& 255) = Int32.ofNat (x &&& 255).toBitVec.toNat := by
    apply Int32.toBitVec_inj.mp
    show _ = BitVec.ofNat 32 _
    rw [BitVec.ofNat_toNat]; simp
  rw [e]
  exact t ⟨_, h⟩
theorem up (cs : List Int32) (h : ∀ c ∈ cs, ¬ c < 0 ∧ ¬ (255 : Int32) < c) : ∀ c ∈ cs, ¬ c < 0 ∧ ¬ (65535 : Int32) < c := fun c hc => ⟨(h c hc).1, fun q => (h c hc).2 (by rw [Int32.lt_iff_toInt_lt] at q ⊢; have e1 : (65535 : Int32).toInt = 65535 := rfl; have e2 : (255 : Int32).toInt = 255 := rfl; omega)⟩
theorem d8_0 : decode prog_59_method_2_code 0 = .ok (.aload_n 0, 1) := by decide +kernel
theorem d8_1 : decode prog_59_method_2_code 1 = .ok (.invokespecial 7, 3) := by decide +kernel
theorem d8_4 : decode prog_59_method_2_code 4 = .ok (.aload_n 0, 1) := by decide +kernel
theorem d8_5 : decode prog_59_method_2_code 5 = .ok (.aload_n 1, 1) := by decide +kernel
theorem d8_6 : decode prog_59_method_2_code 6 = .ok (.putfield 12, 3) := by decide +kernel
theorem d8_9 : decode prog_59_method_2_code 9 = .ok (.aload_n 0, 1) := by decide +kernel
theorem d8_10 : decode prog_59_method_2_code 10 = .ok (.iload_n 2, 1) := by decide +kernel
theorem d8_11 : decode prog_59_method_2_code 11 = .ok (.putfield 16, 3) := by decide +kernel
theorem d8_14 : decode prog_59_method_2_code 14 = .ok (.aload_n 0, 1) := by decide +kernel
theorem d8_15 : decode prog_59_method_2_code 15 = .ok (.lload_n 3, 1) := by decide +kernel
theorem d8_16 : decode prog_59_method_2_code 16 = .ok (.putfield 20, 3) := by decide +kernel
theorem d8_19 : decode prog_59_method_2_code 19 = .ok (.return_, 1) := by decide +kernel
theorem pn_0 : plainName "com/example/covenant/covenant/lang/Variable" = true := by first | (simp [plainName, overriddenIn]; done) | decide +kernel
theorem ef_8 (m : MethodId) (x0 : Addr) (x1 : Addr) (x2 : Int32) (x3 : Int64) : entryFrame m #[(.ref x0), (.ref x1), (.int x2), (.long x3)] 5 = mkF m 0 #[.val (.ref x0), .val (.ref x1), .val (.int x2), .val (.long x3), .second] [] := by first | (simp [entryFrame, mkF, argsToLocals, Value.category]; done) | rfl
def Q8 (Z : State) (a1 : Addr) (a2 : Addr) (p3 : Int32) (q4 : Int64) (h0 : Heap) (n0 : Nat) (v : Option Value) (h : Heap) (L : List Loc) : Prop := v = none ∧ Fr n0 L ∧ Keep h0 h [a1] ∧ Fld Z h a1 "com/example/covenant/covenant/lang/Variable" "name" "Ljava/lang/String;" (.ref a2) ∧ Fld Z h a1 "com/example/covenant/covenant/lang/Variable" "index" "I" (.int p3) ∧ Fld Z h a1 "com/example/covenant/covenant/lang/Variable" "scope" "J" (.long q4)
set_option maxRecDepth 65536 in
set_option maxHeartbeats 40000000 in
theorem rm8 (l : Launch) (Z : State) (a0 : Array Value) (hw : ∀ d ∈ tables_1, d.before a0 Z = true) (ws : List Jvm.Cond) (a1 : Addr) (a2 : Addr) (p3 : Int32) (q4 : Int64) (h0 : Heap) (n0 : Nat) (Z0 : n0 ≤ h0.size) (E1 : Exa Z h0 a1 "com/example/covenant/covenant/lang/Variable") (F_name : Fld Z h0 a1 "com/example/covenant/covenant/lang/Variable" "name" "Ljava/lang/String;" .null) (F_index : Fld Z h0 a1 "com/example/covenant/covenant/lang/Variable" "index" "I" (.int (0 : Int32))) (F_scope : Fld Z h0 a1 "com/example/covenant/covenant/lang/Variable" "scope" "J" (.long (0 : Int64))) (g1 : n0 ≤ a1) :
    MetFree l (⟨"com/example/covenant/covenant/lang/Variable", "<init>", "(Ljava/lang/String;IJ)V"⟩ : MethodName) (head1 (Jvm.Cond.code (⟨"com/example/covenant/covenant/lang/Variable", "<init>", "(Ljava/lang/String;IJ)V"⟩ : MethodName) prog_59_method_2_code 5 none :: ws) ({ frames := 1, cells := 0, slots := 0, locals := 12 } : Room)) (fun a U => a = #[(.ref a1), (.ref a2), (.int p3), (.long q4)] ∧ Z.Warmed39 U.vm ∧ U.heap = h0) (fun _ _ _ _ _ => True) (fun _ U o U' => ∃ v L, o = .returned v ∧ Q8 Z a1 a2 p3 q4 h0 n0 v U'.heap L ∧ FrameEnd U o U' L ({ frames := 1, cells := 0, slots := 0, locals := 12 } : Room).cells ({ frames := 1, cells := 0, slots := 0, locals := 12 } : Room).slots) := by
  refine MetFree.of_bodySF (plainFor_of_name pn_0) hisR ?_
  intro p e s m args below meth c s₁ Bd hml0 hP hK
  obtain ⟨rfl, hZ, hh⟩ := hP
  have hx := Bd.exec
  have hby := Bd.bytes
  have hml : c.maxLocals = 5 := hml0
  have hown : s.vm.findClass "com/example/covenant/covenant/lang/Variable" = some m.cls := findClass_of_methodNamed Bd.named
  have hnm := (name_of_methodNamed Bd.named Bd.method).1
  have X0 : Stand p l e ({ frames := 1, cells := 0, slots := 0, locals := 12 } : Room) s m #[(.ref a1), (.ref a2), (.int p3), (.long q4)] below meth c s₁ [] 0 0 := Stand.of_body Bd
  have e0 : s₁.heap = h0 := by rw [← hh, Bd.state]; rfl
  have N0 := Fr.nil n0
  show Go p e below s (Q8 Z a1 a2 p3 q4 h0 n0) ({ frames := 1, cells := 0, slots := 0, locals := 12 } : Room).cells ({ frames := 1, cells := 0, slots := 0, locals := 12 } : Room).slots _
  refine Go.via (S' := s₁.setTop (mkF m 0 #[.val (.ref a1), .val (.ref a2), .val (.int p3), .val (.long q4), .second] [])) (fun t k => castTop (ef_8 m a1 a2 p3 q4) k) ?_
  refine Go.via (S' := s₁.setTop (mkF m 1 #[.val (.ref a1), .val (.ref a2), .val (.int p3), .val (.long q4), .second] [(.ref a1)])) (fun _ k => XS.aloadN X0.here hx rfl (hb hby d8_0) rfl rfl k) ?_
  obtain ⟨T1, X1, e1, st1⟩ := initO X0 hx hZ hown (hw _ (List.mem_of_getElem? (i := 39) rfl)) (hw _ (List.mem_of_getElem? (i := 12) rfl)) (hw _ (List.mem_of_getElem? (i := 13) rfl)) e0 (g := (mkF m 1 #[.val (.ref a1), .val (.ref a2), .val (.int p3), .val (.long q4), .second] [(.ref a1)])) rfl (by rw [hml]; rfl) rfl (hb hby d8_1) (by decide) (W := 0) (by show 2 * 0 + _ ≤ _; exact Nat.le_of_eq rfl) (by decide)
  refine Go.via (S' := T1.setTop (mkF m 4 #[.val (.ref a1), .val (.ref a2), .val (.int p3), .val (.long q4), .second] [])) (fun _ k => st1 _ k) ?_
  refine Go.via (S' := T1.setTop (mkF m 5 #[.val (.ref a1), .val (.ref a2), .val (.int p3), .val (.long q4), .second] [(.ref a1)])) (fun _ k => XS.aloadN X1.here hx rfl (hb hby d8_4) rfl rfl k) ?_
  refine Go.via (S' := T1.setTop (mkF m 6 #[.val (.ref a1), .val (.ref a2), .val (.int p3), .val (.long q4), .second] [(.ref a2), (.ref a1)])) (fun _ k => XS.aloadN X1.here hx rfl (hb hby d8_5) rfl rfl k) ?_
  obtain ⟨T2, h2, X2, e2, W2, st2⟩ := putF X1 hx hZ hown (host := "") (Or.inl (hw _ (List.mem_of_getElem? (i := 40) rfl))) Via.refl e1 F_name E1 (Or.inr ⟨(hw _ (List.mem_of_getElem? (i := 41) rfl)), rfl, hnm⟩) (hw _ (List.mem_of_getElem? (i := 31) rfl)) (ty := (.object "java/lang/String")) (by decide) rfl rfl (g := (mkF m 6 #[.val (.ref a1), .val (.ref a2), .val (.int p3), .val (.long q4), .second] [(.ref a2), (.ref a1)])) rfl rfl (hb hby d8_6)
  have N3 := Fr.snoc X2 N0 g1
  have f4 := E1.wr W2
  have f5 := F_name.same W2
  have f6 := F_index.other W2 (Or.inr (slot_ne (Or.inr (hw _ (List.mem_of_getElem? (i := 43) rfl))) (Or.inr (hw _ (List.mem_of_getElem? (i := 41) rfl))) (by decide) (t := .int) (t' := (.object "java/lang/String")) (by decide) (by decide)))
  have f7 := F_scope.other W2 (Or.inr (slot_ne (Or.inr (hw _ (List.mem_of_getElem? (i := 45) rfl))) (Or.inr (hw _ (List.mem_of_getElem? (i := 41) rfl))) (by decide) (t := .long) (t' := (.object "java/lang/String")) (by decide) (by decide)))
  have z8 := Nat.le_trans Z0 (Keep.of_wr W2).1
  have K9 := (Keep.refl h0 [a1]).wr W2 (Or.inl (List.mem_of_getElem? (i := 0) rfl))
  refine Go.via (S' := T2.setTop (mkF m 9 #[.val (.ref a1), .val (.ref a2), .val (.int p3), .val (.long q4), .second] [])) (fun _ k => st2 _ k) ?_
  refine Go.via (S' := T2.setTop (mkF m 10 #[.val (.ref a1), .val (.ref a2), .val (.int p3), .val (.long q4), .second] [(.ref a1)])) (fun _ k => XS.aloadN X2.here hx rfl (hb hby d8_9) rfl rfl k) ?_
  refine Go.via (S' := T2.setTop (mkF m 11 #[.val (.ref a1), .val (.ref a2), .val (.int p3), .val (.long q4), .second] [(.int p3), (.ref a1)])) (fun _ k => XS.iloadN X2.here hx rfl (hb hby d8_10) rfl k) ?_
  obtain ⟨T10, h10, X10, e10, W10, st10⟩ := putF X2 hx hZ hown (host := "") (Or.inl (hw _ (List.mem_of_getElem? (i := 42) rfl))) Via.refl e2 f6 f4 (Or.inr ⟨(hw _ (List.mem_of_getElem? (i := 43) rfl)), rfl, hnm⟩) (hw _ (List.mem_of_getElem? (i := 31) rfl)) (ty := .int) (by decide) rfl rfl (g := (mkF m 11 #[.val (.ref a1), .val (.ref a2), .val (.int p3), .val (.long q4), .second] [(.int p3), (.ref a1)])) rfl rfl (hb hby d8_11)
  have N11 := Fr.snoc X10 N3 g1
  have f12 := f4.wr W10
  have f13 := f5.other W10 (Or.inr (slot_ne (Or.inr (hw _ (List.mem_of_getElem? (i := 41) rfl))) (Or.inr (hw _ (List.mem_of_getElem? (i := 43) rfl))) (by decide) (t := (.object "java/lang/String")) (t' := .int) (by decide) (by decide)))
  have f14 := f6.same W10
  have f15 := f7.other W10 (Or.inr (slot_ne (Or.inr (hw _ (List.mem_of_getElem? (i := 45) rfl))) (Or.inr (hw _ (List.mem_of_getElem? (i := 43) rfl))) (by decide) (t := .long) (t' := .int) (by decide) (by decide)))
  have z16 := Nat.le_trans z8 (Keep.of_wr W10).1
  have K17 := K9.wr W10 (Or.inl (List.mem_of_getElem? (i := 0) rfl))
  refine Go.via (S' := T10.setTop (mkF m 14 #[.val (.ref a1), .val (.ref a2), .val (.int p3), .val (.long q4), .second] [])) (fun _ k => st10 _ k) ?_
  refine Go.via (S' := T10.setTop (mkF m 15 #[.val (.ref a1), .val (.ref a2), .val (.int p3), .val (.long q4), .second] [(.ref a1)])) (fun _ k => XS.aloadN X10.here hx rfl (hb hby d8_14) rfl rfl k) ?_
  refine Go.via (S' := T10.setTop (mkF m 16 #[.val (.ref a1), .val (.ref a2), .val (.int p3), .val (.long q4), .second] [(.long q4), (.ref a1)])) (fun _ k => XS.lloadN X10.here hx rfl (hb hby d8_15) rfl k) ?_
  obtain ⟨T18, h18, X18, e18, W18, st18⟩ := putF X10 hx hZ hown (host := "") (Or.inl (hw _ (List.mem_of_getElem? (i := 44) rfl))) Via.refl e10 f15 f12 (Or.inr ⟨(hw _ (List.mem_of_getElem? (i := 45) rfl)), rfl, hnm⟩) (hw _ (List.mem_of_getElem? (i := 31) rfl)) (ty := .long) (by decide) rfl rfl (g := (mkF m 16 #[.val (.ref a1), .val (.ref a2), .val (.int p3), .val (.long q4), .second] [(.long q4), (.ref a1)])) rfl rfl (hb hby d8_16)
  have N19 := Fr.snoc X18 N11 g1
  have f20 := f12.wr W18
  have f21 := f13.other W18 (Or.inr (slot_ne (Or.inr (hw _ (List.mem_of_getElem? (i := 41) rfl))) (Or.inr (hw _ (List.mem_of_getElem? (i := 45) rfl))) (by decide) (t := (.object "java/lang/String")) (t' := .long) (by decide) (by decide)))
  have f22 := f14.other W18 (Or.inr (slot_ne (Or.inr (hw _ (List.mem_of_getElem? (i := 43) rfl))) (Or.inr (hw _ (List.mem_of_getElem? (i := 45) rfl))) (by decide) (t := .int) (t' := .long) (by decide) (by decide)))
  have f23 := f15.same W18
  have z24 := Nat.le_trans z16 (Keep.of_wr W18).1
  have K25 := K17.wr W18 (Or.inl (List.mem_of_getElem? (i := 0) rfl))
  refine Go.via (S' := T18.setTop (mkF m 19 #[.val (.ref a1), .val (.ref a2), .val (.int p3), .val (.long q4), .second] [])) (fun _ k => st18 _ k) ?_
  exact Go.retV X18 hx (BodyLoose.notSynchronized Bd) Bd.returns (hb hby d8_19) (by rw [e18]; exact ⟨rfl, N19, K25, f21, f22, f23⟩) (by decide) (by decide)
theorem d7_0 : decode prog_59_method_1_code 0 = .ok (.aload_n 0, 1) := by decide +kernel
theorem d7_1 : decode prog_59_method_1_code 1 = .ok (.aload_n 1, 1) := by decide +kernel
theorem d7_2 : decode prog_59_method_1_code 2 = .ok (.iload_n 2, 1) := by decide +kernel
theorem d7_3 : decode prog_59_method_1_code 3 = .ok (.lconst 0, 1) := by decide +kernel
theorem d7_4 : decode prog_59_method_1_code 4 = .ok (.invokespecial 1, 3) := by decide +kernel
theorem pd_0 : parseMethodDescriptor "(Ljava/lang/String;IJ)V" = some ⟨[(.object "java/lang/String"), .int, .long], none⟩ := by decide +kernel
theorem d7_7 : decode prog_59_method_1_code 7 = .ok (.return_, 1) := by decide +kernel
theorem ef_7 (m : MethodId) (x0 : Addr) (x1 : Addr) (x2 : Int32) : entryFrame m #[(.ref x0), (.ref x1), (.int x2)] 3 = mkF m 0 #[.val (.ref x0), .val (.ref x1), .val (.int x2)] [] := by first | (simp [entryFrame, mkF, argsToLocals, Value.category]; done) | rfl
def Q7 (Z : State) (a1 : Addr) (a2 : Addr) (p3 : Int32) (h0 : Heap) (n0 : Nat) (v : Option Value) (h : Heap) (L : List Loc) : Prop := v = none ∧ Fr n0 L ∧ Keep h0 h [a1] ∧ Fld Z h a1 "com/example/covenant/covenant/lang/Variable" "name" "Ljava/lang/String;" (.ref a2) ∧ Fld Z h a1 "com/example/covenant/covenant/lang/Variable" "index" "I" (.int p3) ∧ Fld Z h a1 "com/example/covenant/covenant/lang/Variable" "scope" "J" (.long (0 : Int64))
set_option maxRecDepth 65536 in
set_option maxHeartbeats 40000000 in
theorem rm7 (l : Launch) (Z : State) (a0 : Array Value) (hw : ∀ d ∈ tables_1, d.before a0 Z = true) (ws : List Jvm.Cond) (a1 : Addr) (a2 : Addr) (p3 : Int32) (h0 : Heap) (n0 : Nat) (Z0 : n0 ≤ h0.size) (E1 : Exa Z h0 a1 "com/example/covenant/covenant/lang/Variable") (F_name : Fld Z h0 a1 "com/example/covenant/covenant/lang/Variable" "name" "Ljava/lang/String;" .null) (F_index : Fld Z h0 a1 "com/example/covenant/covenant/lang/Variable" "index" "I" (.int (0 : Int32))) (F_scope : Fld Z h0 a1 "com/example/covenant/covenant/lang/Variable" "scope" "J" (.long (0 : Int64))) (g1 : n0 ≤ a1) :
    MetFree l (⟨"com/example/covenant/covenant/lang/Variable", "<init>", "(Ljava/lang/String;I)V"⟩ : MethodName) (head1 (Jvm.Cond.code (⟨"com/example/covenant/covenant/lang/Variable", "<init>", "(Ljava/lang/String;I)V"⟩ : MethodName) prog_59_method_1_code 3 none :: ws) ({ frames := 2, cells := 0, slots := 0, locals := 28 } : Room)) (fun a U => a = #[(.ref a1), (.ref a2), (.int p3)] ∧ Z.Warmed39 U.vm ∧ U.heap = h0) (fun _ _ _ _ _ => True) (fun _ U o U' => ∃ v L, o = .returned v ∧ Q7 Z a1 a2 p3 h0 n0 v U'.heap L ∧ FrameEnd U o U' L ({ frames := 2, cells := 0, slots := 0, locals := 28 } : Room).cells ({ frames := 2, cells := 0, slots := 0, locals := 28 } : Room).slots) := by
  refine MetFree.of_bodySF (plainFor_of_name pn_0) hisR ?_
  intro p e s m args below meth c s₁ Bd hml0 hP hK
  obtain ⟨rfl, hZ, hh⟩ := hP
  have hx := Bd.exec
  have hby := Bd.bytes
  have hml : c.maxLocals = 3 := hml0
  have hown : s.vm.findClass "com/example/covenant/covenant/lang/Variable" = some m.cls := findClass_of_methodNamed Bd.named
  have hnm := (name_of_methodNamed Bd.named Bd.method).1
  have X0 : Stand p l e ({ frames := 2, cells := 0, slots := 0, locals := 28 } : Room) s m #[(.ref a1), (.ref a2), (.int p3)] below meth c s₁ [] 0 0 := Stand.of_body Bd
  have e0 : s₁.heap = h0 := by rw [← hh, Bd.state]; rfl
  have N0 := Fr.nil n0
  show Go p e below s (Q7 Z a1 a2 p3 h0 n0) ({ frames := 2, cells := 0, slots := 0, locals := 28 } : Room).cells ({ frames := 2, cells := 0, slots := 0, locals := 28 } : Room).slots _
  refine Go.via (S' := s₁.setTop (mkF m 0 #[.val (.ref a1), .val (.ref a2), .val (.int p3)] [])) (fun t k => castTop (ef_7 m a1 a2 p3) k) ?_
  refine Go.via (S' := s₁.setTop (mkF m 1 #[.val (.ref a1), .val (.ref a2), .val (.int p3)] [(.ref a1)])) (fun _ k => XS.aloadN X0.here hx rfl (hb hby d7_0) rfl rfl k) ?_
  refine Go.via (S' := s₁.setTop (mkF m 2 #[.val (.ref a1), .val (.ref a2), .val (.int p3)] [(.ref a2), (.ref a1)])) (fun _ k => XS.aloadN X0.here hx rfl (hb hby d7_1) rfl rfl k) ?_
  refine Go.via (S' := s₁.setTop (mkF m 3 #[.val (.ref a1), .val (.ref a2), .val (.int p3)] [(.int p3), (.ref a2), (.ref a1)])) (fun _ k => XS.iloadN X0.here hx rfl (hb hby d7_2) rfl k) ?_
  refine Go.via (S' := s₁.setTop (mkF m 4 #[.val (.ref a1), .val (.ref a2), .val (.int p3)] [(.long (0 : Int64)), (.int p3), (.ref a2), (.ref a1)])) (fun _ k => XS.lconst X0.here hx rfl (hb hby d7_3) k) ?_
  obtain ⟨_, _, ⟨T1, L1, k1, n1⟩, -, X1, ⟨Lc1, hQ1, l1, y1, z1⟩, st1⟩ := X0.specialBack hx (y := (⟨"com/example/covenant/covenant/lang/Variable", "<init>", "(Ljava/lang/String;IJ)V"⟩ : MethodName)) rfl hown (mvT hZ (hw _ (List.mem_of_getElem? (i := 36) rfl))) (mvT hZ (hw _ (List.mem_of_getElem? (i := 37) rfl))) (mvT hZ (hw _ (List.mem_of_getElem? (i := 38) rfl))) (by decide) (backOf (W := 0) (rm8 l Z a0 hw [] a1 a2 p3 (0 : Int64) h0 n0 Z0 E1 F_name F_index F_scope g1) hZ (hw _ (List.mem_of_getElem? (i := 38) rfl)) (hw _ (List.mem_of_getElem? (i := 32) rfl)) (by decide) (by decide)) (g := (mkF m 4 #[.val (.ref a1), .val (.ref a2), .val (.int p3)] [(.long (0 : Int64)), (.int p3), (.ref a2), (.ref a1)])) rfl (by rw [hml]; rfl) (Steps.refl _) (a := a1) (argsL := [(.ref a2), (.int p3), (.long (0 : Int64))]) (rest := []) (lenOf pd_0 rfl) rfl (by show 2 * 0 + _ ≤ _; exact Nat.le_of_eq rfl) (hb hby d7_4) (fun _ _ => ⟨rfl, e0, (by decide : 0 + 0 ≤ _), (by decide : 0 + 0 ≤ _)⟩)
  dsimp only [Pt.U, Pt.locs, Pt.cells, Pt.slots] at X1 l1 y1 z1 st1 hQ1
  subst l1 y1 z1
  obtain ⟨rfl, N1q, K1, Fn1, Fi1, Fs1⟩ := hQ1
  have N2 := Fr.app N0 N1q
  have f3 := E1.keep K1
  have z4 := Nat.le_trans Z0 K1.1
  have K5 := (Keep.refl h0 [a1]).trans K1 (allS (Or.inl (List.mem_of_getElem? (i := 0) rfl)) all0)
  refine Go.via (S' := T1.setTop (mkF m 7 #[.val (.ref a1), .val (.ref a2), .val (.int p3)] [])) (fun _ k => st1.trans k) ?_
  exact Go.retV X1 hx (BodyLoose.notSynchronized Bd) Bd.returns (hb hby d7_7) ⟨rfl, N2, K5, Fn1, Fi1, Fs1⟩ (by decide) (by decide)
theorem d9_0 : decode prog_59_method_6_code 0 = .ok (.new 2, 3) := by decide +kernel
theorem d9_3 : decode prog_59_method_6_code 3 = .ok (.dup, 1) := by decide +kernel
theorem d9_4 : decode prog_59_method_6_code 4 = .ok (.aload_n 0, 1) := by decide +kernel
theorem d9_5 : decode prog_59_method_6_code 5 = .ok (.getfield 12, 3) := by decide +kernel
theorem d9_8 : decode prog_59_method_6_code 8 = .ok (.aload_n 0, 1) := by decide +kernel
theorem d9_9 : decode prog_59_method_6_code 9 = .ok (.getfield 16, 3) := by decide +kernel
theorem d9_12 : decode prog_59_method_6_code 12 = .ok (.lload_n 1, 1) := by decide +kernel
theorem d9_13 : decode prog_59_method_6_code 13 = .ok (.invokespecial 1, 3) := by decide +kernel
theorem d9_16 : decode prog_59_method_6_code 16 = .ok (.areturn, 1) := by decide +kernel
theorem ef_9 (m : MethodId) (x0 : Addr) (x1 : Int64) : entryFrame m #[(.ref x0), (.long x1)] 3 = mkF m 0 #[.val (.ref x0), .val (.long x1), .second] [] := by first | (simp [entryFrame, mkF, argsToLocals, Value.category]; done) | rfl
def Q9 (Z : State) (a1 : Addr) (q2 : Int64) (nm : Addr) (i1 : Int32) (h0 : Heap) (n0 : Nat) (v : Option Value) (h : Heap) (L : List Loc) : Prop := ∃ r : Addr, v = some (.ref r) ∧ Fr n0 L ∧ Keep h0 h [] ∧ Exa Z h r "com/example/covenant/covenant/lang/Variable" ∧ Fld Z h r "com/example/covenant/covenant/lang/Variable" "index" "I" (.int i1) ∧ Fld Z h r "com/example/covenant/covenant/lang/Variable" "scope" "J" (.long q2)
set_option maxRecDepth 65536 in
set_option maxHeartbeats 40000000 in
theorem rm9 (l : Launch) (Z : State) (a0 : Array Value) (hw : ∀ d ∈ tables_1, d.before a0 Z = true) (ws : List Jvm.Cond) (a1 : Addr) (q2 : Int64) (nm : Addr) (i1 : Int32) (h0 : Heap) (n0 : Nat) (Z0 : n0 ≤ h0.size) (F1 : Fld Z h0 a1 "com/example/covenant/covenant/lang/Variable" "name" "Ljava/lang/String;" (.ref nm)) (F2 : Fld Z h0 a1 "com/example/covenant/covenant/lang/Variable" "index" "I" (.int i1)) :
    MetFree l (⟨"com/example/covenant/covenant/lang/Variable", "inScope", "(J)Lcom/example/covenant/covenant/lang/Variable;"⟩ : MethodName) (head1 (Jvm.Cond.code (⟨"com/example/covenant/covenant/lang/Variable", "inScope", "(J)Lcom/example/covenant/covenant/lang/Variable;"⟩ : MethodName) prog_59_method_6_code 3 (some (.object "com/example/covenant/covenant/lang/Variable")) :: ws) ({ frames := 2, cells := 1, slots := 3, locals := 29 } : Room)) (fun a U => a = #[(.ref a1), (.long q2)] ∧ Z.Warmed39 U.vm ∧ U.heap = h0) (fun _ _ _ _ _ => True) (fun _ U o U' => ∃ v L, o = .returned v ∧ Q9 Z a1 q2 nm i1 h0 n0 v U'.heap L ∧ FrameEnd U o U' L ({ frames := 2, cells := 1, slots := 3, locals := 29 } : Room).cells ({ frames := 2, cells := 1, slots := 3, locals := 29 } : Room).slots) := by
  refine MetFree.of_bodySF (plainFor_of_name pn_0) hisR ?_
  intro p e s m args below meth c s₁ Bd hml0 hP hK
  obtain ⟨rfl, hZ, hh⟩ := hP
  have hx := Bd.exec
  have hby := Bd.bytes
  have hml : c.maxLocals = 3 := hml0
  have hown : s.vm.findClass "com/example/covenant/covenant/lang/Variable" = some m.cls := findClass_of_methodNamed Bd.named
  have hnm := (name_of_methodNamed Bd.named Bd.method).1
  have X0 : Stand p l e ({ frames := 2, cells := 1, slots := 3, locals := 29 } : Room) s m #[(.ref a1), (.long q2)] below meth c s₁ [] 0 0 := Stand.of_body Bd
  have e0 : s₁.heap = h0 := by rw [← hh, Bd.state]; rfl
  have N0 := Fr.nil n0
  show Go p e below s (Q9 Z a1 q2 nm i1 h0 n0) ({ frames := 2, cells := 1, slots := 3, locals := 29 } : Room).cells ({ frames := 2, cells := 1, slots := 3, locals := 29 } : Room).slots _
  refine Go.via (S' := s₁.setTop (mkF m 0 #[.val (.ref a1), .val (.long q2), .second] [])) (fun t k => castTop (ef_9 m a1 q2) k) ?_
  obtain ⟨T1, h1, X1, e1, E1, A1, D1, -, st1⟩ := newO X0 hx hZ hown (hw _ (List.mem_of_getElem? (i := 51) rfl)) (hw _ (List.mem_of_getElem? (i := 31) rfl)) (hw _ (List.mem_of_getElem? (i := 32) rfl)) e0 (g := (mkF m 0 #[.val (.ref a1), .val (.long q2), .second] [])) rfl (hb hby d9_0) (by decide) (by decide)
  obtain ⟨b1, g1⟩ : ∃ z, z = h0.size := ⟨_, rfl⟩
  rw [← g1] at A1 D1 st1
  have ne2 : a1 ≠ b1 := Nat.ne_of_lt (Nat.lt_of_lt_of_le F1.lt (Nat.le_of_eq g1.symm))
  have g3 : n0 ≤ b1 := Nat.le_trans Z0 (Nat.le_of_eq g1.symm)
  have g4 : h0.size ≤ b1 := Nat.le_trans (Keep.refl h0 []).1 (Nat.le_of_eq g1.symm)
  have f5 := F1.ext E1
  have f6 := F2.ext E1
  have z7 := Nat.le_trans Z0 E1.1
  have K8 := (Keep.refl h0 []).ext E1
  have F9 : Fld Z h1 b1 "com/example/covenant/covenant/lang/Variable" "name" "Ljava/lang/String;" .null := D1 (Or.inr (hw _ (List.mem_of_getElem? (i := 41) rfl))) (ty := (.object "java/lang/String")) (by decide)
  have F10 : Fld Z h1 b1 "com/example/covenant/covenant/lang/Variable" "index" "I" (.int (0 : Int32)) := D1 (Or.inr (hw _ (List.mem_of_getElem? (i := 43) rfl))) (ty := .int) (by decide)
  have F11 : Fld Z h1 b1 "com/example/covenant/covenant/lang/Variable" "scope" "J" (.long (0 : Int64)) := D1 (Or.inr (hw _ (List.mem_of_getElem? (i := 45) rfl))) (ty := .long) (by decide)
  refine Go.via (S' := T1.setTop (mkF m 3 #[.val (.ref a1), .val (.long q2), .second] [(.ref b1)])) (fun _ k => st1 _ k) ?_
  refine Go.via (S' := T1.setTop (mkF m 4 #[.val (.ref a1), .val (.long q2), .second] [(.ref b1), (.ref b1)])) (fun _ k => XS.dup X1.here hx rfl (hb hby d9_3) rfl rfl k) ?_
  refine Go.via (S' := T1.setTop (mkF m 5 #[.val (.ref a1), .val (.long q2), .second] [(.ref a1), (.ref b1), (.ref b1)])) (fun _ k => XS.aloadN X1.here hx rfl (hb hby d9_4) rfl rfl k) ?_
  obtain ⟨T12, X12, e12, st12⟩ := getF X1 hx hZ hown (host := "") (Or.inl (hw _ (List.mem_of_getElem? (i := 40) rfl))) Via.refl e1 f5 (g := (mkF m 5 #[.val (.ref a1), .val (.long q2), .second] [(.ref a1), (.ref b1), (.ref b1)])) rfl rfl (hb hby d9_5)
  refine Go.via (S' := T12.setTop (mkF m 8 #[.val (.ref a1), .val (.long q2), .second] [(.ref nm), (.ref b1), (.ref b1)])) (fun _ k => st12 _ k) ?_
  refine Go.via (S' := T12.setTop (mkF m 9 #[.val (.ref a1), .val (.long q2), .second] [(.ref a1), (.ref nm), (.ref b1), (.ref b1)])) (fun _ k => XS.aloadN X12.here hx rfl (hb hby d9_8) rfl rfl k) ?_
  obtain ⟨T13, X13, e13, st13⟩ := getF X12 hx hZ hown (host := "") (Or.inl (hw _ (List.mem_of_getElem? (i := 42) rfl))) Via.refl e12 f6 (g := (mkF m 9 #[.val (.ref a1), .val (.long q2), .second] [(.ref a1), (.ref nm), (.ref b1), (.ref b1)])) rfl rfl (hb hby d9_9)
  refine Go.via (S' := T13.setTop (mkF m 12 #[.val (.ref a1), .val (.long q2), .second] [(.int i1), (.ref nm), (.ref b1), (.ref b1)])) (fun _ k => st13 _ k) ?_
  refine Go.via (S' := T13.setTop (mkF m 13 #[.val (.ref a1), .val (.long q2), .second] [(.long q2), (.int i1), (.ref nm), (.ref b1), (.ref b1)])) (fun _ k => XS.lloadN X13.here hx rfl (hb hby d9_12) rfl k) ?_
  obtain ⟨_, _, ⟨T14, L14, k14, n14⟩, -, X14, ⟨Lc14, hQ14, l14, y14, z14⟩, st14⟩ := X13.specialBack hx (y := (⟨"com/example/covenant/covenant/lang/Variable", "<init>", "(Ljava/lang/String;IJ)V"⟩ : MethodName)) rfl hown (mvT hZ (hw _ (List.mem_of_getElem? (i := 36) rfl))) (mvT hZ (hw _ (List.mem_of_getElem? (i := 37) rfl))) (mvT hZ (hw _ (List.mem_of_getElem? (i := 38) rfl))) (by decide) (backOf (W := 1) (rm8 l Z a0 hw [] b1 nm i1 q2 h1 n0 z7 A1 F9 F10 F11 g3) hZ (hw _ (List.mem_of_getElem? (i := 38) rfl)) (hw _ (List.mem_of_getElem? (i := 32) rfl)) (by decide) (by decide)) (g := (mkF m 13 #[.val (.ref a1), .val (.long q2), .second] [(.long q2), (.int i1), (.ref nm), (.ref b1), (.ref b1)])) rfl (by rw [hml]; rfl) (Steps.refl _) (a := b1) (argsL := [(.ref nm), (.int i1), (.long q2)]) (rest := [(.ref b1)]) (lenOf pd_0 rfl) rfl (by show 2 * 0 + _ ≤ _; exact Nat.le_of_eq rfl) (hb hby d9_13) (fun _ _ => ⟨rfl, e13, (by decide : 1 + 0 ≤ _), (by decide : 3 + 0 ≤ _)⟩)
  dsimp only [Pt.U, Pt.locs, Pt.cells, Pt.slots] at X14 l14 y14 z14 st14 hQ14
  subst l14 y14 z14
  obtain ⟨rfl, N14q, K14, Fn14, Fi14, Fs14⟩ := hQ14
  have N15 := Fr.app N0 N14q
  have f16 := f5.keep K14 (ninS ne2 nin0)
  have f17 := f6.keep K14 (ninS ne2 nin0)
  have f18 := A1.keep K14
  have z19 := Nat.le_trans z7 K14.1
  have K20 := K8.trans K14 (allS (Or.inr g4) all0)
  refine Go.via (S' := T14.setTop (mkF m 16 #[.val (.ref a1), .val (.long q2), .second] [(.ref b1)])) (fun _ k => st14.trans k) ?_
  exact Go.retA X14 hx (BodyLoose.notSynchronized Bd) Bd.returns rfl rfl rfl (hb hby d9_16) ⟨_, rfl, N15, K20, f18, Fi14, Fs14⟩ (by decide) (by decide)
theorem d11_0 : decode prog_27_method_1_code 0 = .ok (.aload_n 0, 1) := by decide +kernel
theorem d11_1 : decode prog_27_method_1_code 1 = .ok (.invokespecial 1, 3) := by decide +kernel
theorem d11_4 : decode prog_27_method_1_code 4 = .ok (.aload_n 0, 1) := by decide +kernel
theorem d11_5 : decode prog_27_method_1_code 5 = .ok (.lload_n 1, 1) := by decide +kernel
theorem d11_6 : decode prog_27_method_1_code 6 = .ok (.putfield 7, 3) := by decide +kernel
theorem d11_9 : decode prog_27_method_1_code 9 = .ok (.return_, 1) := by decide +kernel
theorem pn_1 : plainName "com/example/covenant/covenant/lang/IntegerTerm" = true := by first | (simp [plainName, overriddenIn]; done) | decide +kernel
theorem ef_11 (m : MethodId) (x0 : Addr) (x1 : Int64) : entryFrame m #[(.ref x0), (.long x1)] 3 = mkF m 0 #[.val (.ref x0), .val (.long x1), .second] [] := by first | (simp [entryFrame, mkF, argsToLocals, Value.category]; done) | rfl
def Q11 (Z : State) (a1 : Addr) (q2 : Int64) (h0 : Heap) (n0 : Nat) (v : Option Value) (h : Heap) (L : List Loc) : Prop := v = none ∧ Fr n0 L ∧ Keep h0 h [a1]
set_option maxRecDepth 65536 in
set_option maxHeartbeats 40000000 in
theorem rm11 (l : Launch) (Z : State) (a0 : Array Value) (hw : ∀ d ∈ tables_1, d.before a0 Z = true) (ws : List Jvm.Cond) (a1 : Addr) (q2 : Int64) (h0 : Heap) (n0 : Nat) (Z0 : n0 ≤ h0.size) (E1 : Exa Z h0 a1 "com/example/covenant/covenant/lang/IntegerTerm") (F1 : Fld Z h0 a1 "com/example/covenant/covenant/lang/IntegerTerm" "value" "J" (.long (0 : Int64))) (g1 : n0 ≤ a1) :
    MetFree l (⟨"com/example/covenant/covenant/lang/IntegerTerm", "<init>", "(J)V"⟩ : MethodName) (head1 (Jvm.Cond.code (⟨"com/example/covenant/covenant/lang/IntegerTerm", "<init>", "(J)V"⟩ : MethodName) prog_27_method_1_code 3 none :: ws) ({ frames := 1, cells := 0, slots := 0, locals := 12 } : Room)) (fun a U => a = #[(.ref a1), (.long q2)] ∧ Z.Warmed39 U.vm ∧ U.heap = h0) (fun _ _ _ _ _ => True) (fun _ U o U' => ∃ v L, o = .returned v ∧ Q11 Z a1 q2 h0 n0 v U'.heap L ∧ FrameEnd U o U' L ({ frames := 1, cells := 0, slots := 0, locals := 12 } : Room).cells ({ frames := 1, cells := 0, slots := 0, locals := 12 } : Room).slots) := by
  refine MetFree.of_bodySF (plainFor_of_name pn_1) hisR ?_
  intro p e s m args below meth c s₁ Bd hml0 hP hK
  obtain ⟨rfl, hZ, hh⟩ := hP
  have hx := Bd.exec
  have hby := Bd.bytes
  have hml : c.maxLocals = 3 := hml0
  have hown : s.vm.findClass "com/example/covenant/covenant/lang/IntegerTerm" = some m.cls := findClass_of_methodNamed Bd.named
  have hnm := (name_of_methodNamed Bd.named Bd.method).1
  have X0 : Stand p l e ({ frames := 1, cells := 0, slots := 0, locals := 12 } : Room) s m #[(.ref a1), (.long q2)] below meth c s₁ [] 0 0 := Stand.of_body Bd
  have e0 : s₁.heap = h0 := by rw [← hh, Bd.state]; rfl
  have N0 := Fr.nil n0
  show Go p e below s (Q11 Z a1 q2 h0 n0) ({ frames := 1, cells := 0, slots := 0, locals := 12 } : Room).cells ({ frames := 1, cells := 0, slots := 0, locals := 12 } : Room).slots _
  refine Go.via (S' := s₁.setTop (mkF m 0 #[.val (.ref a1), .val (.long q2), .second] [])) (fun t k => castTop (ef_11 m a1 q2) k) ?_
  refine Go.via (S' := s₁.setTop (mkF m 1 #[.val (.ref a1), .val (.long q2), .second] [(.ref a1)])) (fun _ k => XS.aloadN X0.here hx rfl (hb hby d11_0) rfl rfl k) ?_
  obtain ⟨T1, X1, e1, st1⟩ := initO X0 hx hZ hown (hw _ (List.mem_of_getElem? (i := 64) rfl)) (hw _ (List.mem_of_getElem? (i := 12) rfl)) (hw _ (List.mem_of_getElem? (i := 13) rfl)) e0 (g := (mkF m 1 #[.val (.ref a1), .val (.long q2), .second] [(.ref a1)])) rfl (by rw [hml]; rfl) rfl (hb hby d11_1) (by decide) (W := 0) (by show 2 * 0 + _ ≤ _; exact Nat.le_of_eq rfl) (by decide)
  refine Go.via (S' := T1.setTop (mkF m 4 #[.val (.ref a1), .val (.long q2), .second] [])) (fun _ k => st1 _ k) ?_
  refine Go.via (S' := T1.setTop (mkF m 5 #[.val (.ref a1), .val (.long q2), .second] [(.ref a1)])) (fun _ k => XS.aloadN X1.here hx rfl (hb hby d11_4) rfl rfl k) ?_
  refine Go.via (S' := T1.setTop (mkF m 6 #[.val (.ref a1), .val (.long q2), .second] [(.long q2), (.ref a1)])) (fun _ k => XS.lloadN X1.here hx rfl (hb hby d11_5) rfl k) ?_
  obtain ⟨T2, h2, X2, e2, W2, st2⟩ := putF X1 hx hZ hown (host := "") (Or.inl (hw _ (List.mem_of_getElem? (i := 65) rfl))) Via.refl e1 F1 E1 (Or.inr ⟨(hw _ (List.mem_of_getElem? (i := 66) rfl)), rfl, hnm⟩) (hw _ (List.mem_of_getElem? (i := 59) rfl)) (ty := .long) (by decide) rfl rfl (g := (mkF m 6 #[.val (.ref a1), .val (.long q2), .second] [(.long q2), (.ref a1)])) rfl rfl (hb hby d11_6)
  have N3 := Fr.snoc X2 N0 g1
  have f4 := E1.wr W2
  have f5 := F1.same W2
  have z6 := Nat.le_trans Z0 (Keep.of_wr W2).1
  have K7 := (Keep.refl h0 [a1]).wr W2 (Or.inl (List.mem_of_getElem? (i := 0) rfl))
  refine Go.via (S' := T2.setTop (mkF m 9 #[.val (.ref a1), .val (.long q2), .second] [])) (fun _ k => st2 _ k) ?_
  exact Go.retV X2 hx (BodyLoose.notSynchronized Bd) Bd.returns (hb hby d11_9) (by rw [e2]; exact ⟨rfl, N3, K7⟩) (by decide) (by decide)
theorem d10_0 : decode prog_59_method_17_code 0 = .ok (.aload_n 1, 1) := by decide +kernel
theorem d10_1 : decode prog_59_method_17_code 1 = .ok (.instanceof 2, 3) := by decide +kernel
theorem d10_4 : decode prog_59_method_17_code 4 = .ok (.ifCond .eq 35, 3) := by decide +kernel
theorem d10_7 : decode prog_59_method_17_code 7 = .ok (.aload_n 1, 1) := by decide +kernel
theorem d10_8 : decode prog_59_method_17_code 8 = .ok (.checkcast 2, 3) := by decide +kernel
theorem d10_11 : decode prog_59_method_17_code 11 = .ok (.astore_n 2, 1) := by decide +kernel
theorem d10_12 : decode prog_59_method_17_code 12 = .ok (.aload_n 0, 1) := by decide +kernel
theorem d10_13 : decode prog_59_method_17_code 13 = .ok (.getfield 16, 3) := by decide +kernel
theorem d10_16 : decode prog_59_method_17_code 16 = .ok (.aload_n 2, 1) := by decide +kernel
theorem d10_17 : decode prog_59_method_17_code 17 = .ok (.getfield 16, 3) := by decide +kernel
theorem d10_20 : decode prog_59_method_17_code 20 = .ok (.if_icmp .ne 19, 3) := by decide +kernel
theorem d10_23 : decode prog_59_method_17_code 23 = .ok (.aload_n 0, 1) := by decide +kernel
theorem d10_24 : decode prog_59_method_17_code 24 = .ok (.getfield 20, 3) := by decide +kernel
theorem d10_27 : decode prog_59_method_17_code 27 = .ok (.aload_n 2, 1) := by decide +kernel
theorem d10_28 : decode prog_59_method_17_code 28 = .ok (.getfield 20, 3) := by decide +kernel
theorem d10_31 : decode prog_59_method_17_code 31 = .ok (.lcmp, 1) := by decide +kernel
theorem d10_32 : decode prog_59_method_17_code 32 = .ok (.ifCond .ne 7, 3) := by decide +kernel
theorem d10_35 : decode prog_59_method_17_code 35 = .ok (.iconst 1, 1) := by decide +kernel
theorem d10_36 : decode prog_59_method_17_code 36 = .ok (.goto 4, 3) := by decide +kernel
theorem d10_40 : decode prog_59_method_17_code 40 = .ok (.ireturn, 1) := by decide +kernel
theorem d10_39 : decode prog_59_method_17_code 39 = .ok (.iconst 0, 1) := by decide +kernel
theorem ef_10 (m : MethodId) (x0 : Addr) (x1 : Addr) : entryFrame m #[(.ref x0), (.ref x1)] 3 = mkF m 0 #[.val (.ref x0), .val (.ref x1), .unset] [] := by first | (simp [entryFrame, mkF, argsToLocals, Value.category]; done) | rfl
def Q10 (Z : State) (a1 : Addr) (a2 : Addr) (i1 : Int32) (i2 : Int32) (s1 : Int64) (s2 : Int64) (h0 : Heap) (n0 : Nat) (v : Option Value) (h : Heap) (L : List Loc) : Prop := ∃ r : Int32, v = some (.int r) ∧ Fr n0 L ∧ h = h0 ∧ ((r = 1 ∧ i1 = i2 ∧ s1 = s2) ∨ (r = 0 ∧ ¬ (i1 = i2 ∧ s1 = s2)))
set_option maxRecDepth 65536 in
set_option maxHeartbeats 40000000 in
theorem rm10 (l : Launch) (Z : State) (a0 : Array Value) (hw : ∀ d ∈ tables_1, d.before a0 Z = true) (ws : List Jvm.Cond) (a1 : Addr) (a2 : Addr) (i1 : Int32) (i2 : Int32) (s1 : Int64) (s2 : Int64) (h0 : Heap) (n0 : Nat) (Z0 : n0 ≤ h0.size) (F1 : Fld Z h0 a1 "com/example/covenant/covenant/lang/Variable" "index" "I" (.int i1)) (F2 : Fld Z h0 a1 "com/example/covenant/covenant/lang/Variable" "scope" "J" (.long s1)) (E2 : Exa Z h0 a2 "com/example/covenant/covenant/lang/Variable") (F3 : Fld Z h0 a2 "com/example/covenant/covenant/lang/Variable" "index" "I" (.int i2)) (F4 : Fld Z h0 a2 "com/example/covenant/covenant/lang/Variable" "scope" "J" (.long s2)) :
    MetFree l (⟨"com/example/covenant/covenant/lang/Variable", "equals", "(Ljava/lang/Object;)Z"⟩ : MethodName) (head1 (Jvm.Cond.code (⟨"com/example/covenant/covenant/lang/Variable", "equals", "(Ljava/lang/Object;)Z"⟩ : MethodName) prog_59_method_17_code 3 (some .boolean) :: ws) ({ frames := 0, cells := 0, slots := 0, locals := 0 } : Room)) (fun a U => a = #[(.ref a1), (.ref a2)] ∧ Z.Warmed39 U.vm ∧ U.heap = h0) (fun _ _ _ _ _ => True) (fun _ U o U' => ∃ v L, o = .returned v ∧ Q10 Z a1 a2 i1 i2 s1 s2 h0 n0 v U'.heap L ∧ FrameEnd U o U' L ({ frames := 0, cells := 0, slots := 0, locals := 0 } : Room).cells ({ frames := 0, cells := 0, slots := 0, locals := 0 } : Room).slots) := by
  refine MetFree.of_bodySF (plainFor_of_name pn_0) hisR ?_
  intro p e s m args below meth c s₁ Bd hml0 hP hK
  obtain ⟨rfl, hZ, hh⟩ := hP
  have hx := Bd.exec
  have hby := Bd.bytes
  have hml : c.maxLocals = 3 := hml0
  have hown : s.vm.findClass "com/example/covenant/covenant/lang/Variable" = some m.cls := findClass_of_methodNamed Bd.named
  have hnm := (name_of_methodNamed Bd.named Bd.method).1
  have X0 : Stand p l e ({ frames := 0, cells := 0, slots := 0, locals := 0 } : Room) s m #[(.ref a1), (.ref a2)] below meth c s₁ [] 0 0 := Stand.of_body Bd
  have e0 : s₁.heap = h0 := by rw [← hh, Bd.state]; rfl
  have N0 := Fr.nil n0
  show Go p e below s (Q10 Z a1 a2 i1 i2 s1 s2 h0 n0) ({ frames := 0, cells := 0, slots := 0, locals := 0 } : Room).cells ({ frames := 0, cells := 0, slots := 0, locals := 0 } : Room).slots _
  refine Go.via (S' := s₁.setTop (mkF m 0 #[.val (.ref a1), .val (.ref a2), .unset] [])) (fun t k => castTop (ef_10 m a1 a2) k) ?_
  refine Go.via (S' := s₁.setTop (mkF m 1 #[.val (.ref a1), .val (.ref a2), .unset] [(.ref a2)])) (fun _ k => XS.aloadN X0.here hx rfl (hb hby d10_0) rfl rfl k) ?_
  obtain ⟨T1, X1, e1, st1⟩ := instY X0 hx hZ hown (hw _ (List.mem_of_getElem? (i := 51) rfl)) e0 (Ins.self E2) (g := (mkF m 1 #[.val (.ref a1), .val (.ref a2), .unset] [(.ref a2)])) rfl rfl (hb hby d10_1)
  refine Go.via (S' := T1.setTop (mkF m 4 #[.val (.ref a1), .val (.ref a2), .unset] [(.int (1 : Int32))])) (fun _ k => st1 _ k) ?_
  refine Go.via (S' := T1.setTop (mkF m 7 #[.val (.ref a1), .val (.ref a2), .unset] [])) (fun _ k => XS.ifNo X1.here hx rfl (hb hby d10_4) rfl ((if0 _ _).trans (feq (by decide)).1) k) ?_
  refine Go.via (S' := T1.setTop (mkF m 8 #[.val (.ref a1), .val (.ref a2), .unset] [(.ref a2)])) (fun _ k => XS.aloadN X1.here hx rfl (hb hby d10_7) rfl rfl k) ?_
  obtain ⟨T2, X2, e2, st2⟩ := castY X1 hx hZ hown (hw _ (List.mem_of_getElem? (i := 51) rfl)) e1 (Ins.self E2) (g := (mkF m 8 #[.val (.ref a1), .val (.ref a2), .unset] [(.ref a2)])) rfl rfl (hb hby d10_8)
  refine Go.via (S' := T2.setTop (mkF m 11 #[.val (.ref a1), .val (.ref a2), .unset] [(.ref a2)])) (fun _ k => st2 _ k) ?_
  refine Go.via (S' := T2.setTop (mkF m 12 #[.val (.ref a1), .val (.ref a2), .val (.ref a2)] [])) (fun _ k => XS.astoreN X2.here hx rfl (hb hby d10_11) rfl rfl (l' := #[.val (.ref a1), .val (.ref a2), .val (.ref a2)]) rfl k) ?_
  refine Go.via (S' := T2.setTop (mkF m 13 #[.val (.ref a1), .val (.ref a2), .val (.ref a2)] [(.ref a1)])) (fun _ k => XS.aloadN X2.here hx rfl (hb hby d10_12) rfl rfl k) ?_
  obtain ⟨T3, X3, e3, st3⟩ := getF X2 hx hZ hown (host := "") (Or.inl (hw _ (List.mem_of_getElem? (i := 42) rfl))) Via.refl e2 F1 (g := (mkF m 13 #[.val (.ref a1), .val (.ref a2), .val (.ref a2)] [(.ref a1)])) rfl rfl (hb hby d10_13)
  refine Go.via (S' := T3.setTop (mkF m 16 #[.val (.ref a1), .val (.ref a2), .val (.ref a2)] [(.int i1)])) (fun _ k => st3 _ k) ?_
  refine Go.via (S' := T3.setTop (mkF m 17 #[.val (.ref a1), .val (.ref a2), .val (.ref a2)] [(.ref a2), (.int i1)])) (fun _ k => XS.aloadN X3.here hx rfl (hb hby d10_16) rfl rfl k) ?_
  obtain ⟨T4, X4, e4, st4⟩ := getF X3 hx hZ hown (host := "") (Or.inl (hw _ (List.mem_of_getElem? (i := 42) rfl))) Via.refl e3 F3 (g := (mkF m 17 #[.val (.ref a1), .val (.ref a2), .val (.ref a2)] [(.ref a2), (.int i1)])) rfl rfl (hb hby d10_17)
  refine Go.via (S' := T4.setTop (mkF m 20 #[.val (.ref a1), .val (.ref a2), .val (.ref a2)] [(.int i2), (.int i1)])) (fun _ k => st4 _ k) ?_
  rcases Decidable.em (i1 = i2) with hc20 | hc20
  · refine Go.via (S' := T4.setTop (mkF m 23 #[.val (.ref a1), .val (.ref a2), .val (.ref a2)] [])) (fun _ k => XS.icmpNo X4.here hx rfl (hb hby d10_20) rfl (teq hc20).2 k) ?_
    refine Go.via (S' := T4.setTop (mkF m 24 #[.val (.ref a1), .val (.ref a2), .val (.ref a2)] [(.ref a1)])) (fun _ k => XS.aloadN X4.here hx rfl (hb hby d10_23) rfl rfl k) ?_
    obtain ⟨T5, X5, e5, st5⟩ := getF X4 hx hZ hown (host := "") (Or.inl (hw _ (List.mem_of_getElem? (i := 44) rfl))) Via.refl e4 F2 (g := (mkF m 24 #[.val (.ref a1), .val (.ref a2), .val (.ref a2)] [(.ref a1)])) rfl rfl (hb hby d10_24)
    refine Go.via (S' := T5.setTop (mkF m 27 #[.val (.ref a1), .val (.ref a2), .val (.ref a2)] [(.long s1)])) (fun _ k => st5 _ k) ?_
    refine Go.via (S' := T5.setTop (mkF m 28 #[.val (.ref a1), .val (.ref a2), .val (.ref a2)] [(.ref a2), (.long s1)])) (fun _ k => XS.aloadN X5.here hx rfl (hb hby d10_27) rfl rfl k) ?_
    obtain ⟨T6, X6, e6, st6⟩ := getF X5 hx hZ hown (host := "") (Or.inl (hw _ (List.mem_of_getElem? (i := 44) rfl))) Via.refl e5 F4 (g := (mkF m 28 #[.val (.ref a1), .val (.ref a2), .val (.ref a2)] [(.ref a2), (.long s1)])) rfl rfl (hb hby d10_28)
    refine Go.via (S' := T6.setTop (mkF m 31 #[.val (.ref a1), .val (.ref a2), .val (.ref a2)] [(.long s2), (.long s1)])) (fun _ k => st6 _ k) ?_
    refine Go.via (S' := T6.setTop (mkF m 32 #[.val (.ref a1), .val (.ref a2), .val (.ref a2)] [(.int (lcmpW s1 s2))])) (fun _ k => XS.lcmp X6.here hx rfl (hb hby d10_31) rfl k) ?_
    rcases Decidable.em (s1 = s2) with hc32 | hc32
    · refine Go.via (S' := T6.setTop (mkF m 35 #[.val (.ref a1), .val (.ref a2), .val (.ref a2)] [])) (fun _ k => XS.ifNo X6.here hx rfl (hb hby d10_32) rfl ((if0 _ _).trans (teq (own_lc5 hc32)).2) k) ?_
      refine Go.via (S' := T6.setTop (mkF m 36 #[.val (.ref a1), .val (.ref a2), .val (.ref a2)] [(.int (1 : Int32))])) (fun _ k => XS.iconst X6.here hx rfl (hb hby d10_35) k) ?_
      refine Go.via (S' := T6.setTop (mkF m 40 #[.val (.ref a1), .val (.ref a2), .val (.ref a2)] [(.int (1 : Int32))])) (fun _ k => XS.goto X6.here hx rfl (pc0 := 36) (pc' := 40) rfl (hb hby d10_36) (by decide) (by decide) k) ?_
      exact Go.retB X6 hx (BodyLoose.notSynchronized Bd) Bd.returns (hb hby d10_40) rfl (by rw [e6]; exact ⟨_, rfl, N0, rfl, Or.inl ⟨rfl, hc20, hc32⟩⟩) (by decide) (by decide)
    · refine Go.via (S' := T6.setTop (mkF m 39 #[.val (.ref a1), .val (.ref a2), .val (.ref a2)] [])) (fun _ k => XS.ifYes X6.here hx rfl (pc0 := 32) (pc' := 39) rfl (hb hby d10_32) rfl ((if0 _ _).trans (feq (own_lc6 hc32)).2) (by decide) (by decide) k) ?_
      refine Go.via (S' := T6.setTop (mkF m 40 #[.val (.ref a1), .val (.ref a2), .val (.ref a2)] [(.int (0 : Int32))])) (fun _ k => XS.iconst X6.here hx rfl (hb hby d10_39) k) ?_
      exact Go.retB X6 hx (BodyLoose.notSynchronized Bd) Bd.returns (hb hby d10_40) rfl (by rw [e6]; exact ⟨_, rfl, N0, rfl, Or.inr ⟨rfl, fun q => hc32 q.2⟩⟩) (by decide) (by decide)
  · refine Go.via (S' := T4.setTop (mkF m 39 #[.val (.ref a1), .val (.ref a2), .val (.ref a2)] [])) (fun _ k => XS.icmpYes X4.here hx rfl (pc0 := 20) (pc' := 39) rfl (hb hby d10_20) rfl (feq hc20).2 (by decide) (by decide) k) ?_
    refine Go.via (S' := T4.setTop (mkF m 40 #[.val (.ref a1), .val (.ref a2), .val (.ref a2)] [(.int (0 : Int32))])) (fun _ k => XS.iconst X4.here hx rfl (hb hby d10_39) k) ?_
    exact Go.retB X4 hx (BodyLoose.notSynchronized Bd) Bd.returns (hb hby d10_40) rfl (by rw [e4]; exact ⟨_, rfl, N0, rfl, Or.inr ⟨rfl, fun q => hc20 q.1⟩⟩) (by decide) (by decide)
theorem ef_10n (m : MethodId) (x0 : Addr) : entryFrame m #[(.ref x0), .null] 3 = mkF m 0 #[.val (.ref x0), .val .null, .unset] [] := by first | (simp [entryFrame, mkF, argsToLocals, Value.category]; done) | rfl
def Q10n (Z : State) (a1 : Addr) (h0 : Heap) (n0 : Nat) (v : Option Value) (h : Heap) (L : List Loc) : Prop := v = some (.int 0) ∧ Fr n0 L ∧ h = h0
set_option maxRecDepth 65536 in
set_option maxHeartbeats 40000000 in
theorem rm10n (l : Launch) (Z : State) (a0 : Array Value) (hw : ∀ d ∈ tables_1, d.before a0 Z = true) (ws : List Jvm.Cond) (a1 : Addr) (h0 : Heap) (n0 : Nat) (Z0 : n0 ≤ h0.size) :
    MetFree l (⟨"com/example/covenant/covenant/lang/Variable", "equals", "(Ljava/lang/Object;)Z"⟩ : MethodName) (head1 (Jvm.Cond.code (⟨"com/example/covenant/covenant/lang/Variable", "equals", "(Ljava/lang/Object;)Z"⟩ : MethodName) prog_59_method_17_code 3 (some .boolean) :: ws) ({ frames := 0, cells := 0, slots := 0, locals := 0 } : Room)) (fun a U => a = #[(.ref a1), .null] ∧ Z.Warmed39 U.vm ∧ U.heap = h0) (fun _ _ _ _ _ => True) (fun _ U o U' => ∃ v L, o = .returned v ∧ Q10n Z a1 h0 n0 v U'.heap L ∧ FrameEnd U o U' L ({ frames := 0, cells := 0, slots := 0, locals := 0 } : Room).cells ({ frames := 0, cells := 0, slots := 0, locals := 0 } : Room).slots) := by
  refine MetFree.of_bodySF (plainFor_of_name pn_0) hisR ?_
  intro p e s m args below meth c s₁ Bd hml0 hP hK
  obtain ⟨rfl, hZ, hh⟩ := hP
  have hx := Bd.exec
  have hby := Bd.bytes
  have hml : c.maxLocals = 3 := hml0
  have hown : s.vm.findClass "com/example/covenant/covenant/lang/Variable" = some m.cls := findClass_of_methodNamed Bd.named
  have hnm := (name_of_methodNamed Bd.named Bd.method).1
  have X0 : Stand p l e ({ frames := 0, cells := 0, slots := 0, locals := 0 } : Room) s m #[(.ref a1), .null] below meth c s₁ [] 0 0 := Stand.of_body Bd
  have e0 : s₁.heap = h0 := by rw [← hh, Bd.state]; rfl
  have N0 := Fr.nil n0
  show Go p e below s (Q10n Z a1 h0 n0) ({ frames := 0, cells := 0, slots := 0, locals := 0 } : Room).cells ({ frames := 0, cells := 0, slots := 0, locals := 0 } : Room).slots _
  refine Go.via (S' := s₁.setTop (mkF m 0 #[.val (.ref a1), .val .null, .unset] [])) (fun t k => castTop (ef_10n m a1) k) ?_
  refine Go.via (S' := s₁.setTop (mkF m 1 #[.val (.ref a1), .val .null, .unset] [.null])) (fun _ k => XS.aloadN X0.here hx rfl (hb hby d10_0) rfl rfl k) ?_
  refine Go.via (S' := s₁.setTop (mkF m 4 #[.val (.ref a1), .val .null, .unset] [(.int (0 : Int32))])) (fun _ k => X0.instanceofNull hx (g := (mkF m 1 #[.val (.ref a1), .val .null, .unset] [.null])) rfl rfl (hb hby d10_1) _ k) ?_
  refine Go.via (S' := s₁.setTop (mkF m 39 #[.val (.ref a1), .val .null, .unset] [])) (fun _ k => XS.ifYes X0.here hx rfl (pc0 := 4) (pc' := 39) rfl (hb hby d10_4) rfl ((if0 _ _).trans (teq (by decide)).1) (by decide) (by decide) k) ?_
  refine Go.via (S' := s₁.setTop (mkF m 40 #[.val (.ref a1), .val .null, .unset] [(.int (0 : Int32))])) (fun _ k => XS.iconst X0.here hx rfl (hb hby d10_39) k) ?_
  exact Go.retB X0 hx (BodyLoose.notSynchronized Bd) Bd.returns (hb hby d10_40) rfl (by rw [e0]; exact ⟨rfl, N0, rfl⟩) (by decide) (by decide)
theorem ef_10t (m : MethodId) (x0 : Addr) (x1 : Addr) : entryFrame m #[(.ref x0), (.ref x1)] 3 = mkF m 0 #[.val (.ref x0), .val (.ref x1), .unset] [] := by first | (simp [entryFrame, mkF, argsToLocals, Value.category]; done) | rfl
def Q10t (Z : State) (a1 : Addr) (a2 : Addr) (h0 : Heap) (n0 : Nat) (v : Option Value) (h : Heap) (L : List Loc) : Prop := v = some (.int 0) ∧ Fr n0 L ∧ h = h0
set_option maxRecDepth 65536 in
set_option maxHeartbeats 40000000 in
theorem rm10t (l : Launch) (Z : State) (a0 : Array Value) (hw : ∀ d ∈ tables_1, d.before a0 Z = true) (ws : List Jvm.Cond) (a1 : Addr) (a2 : Addr) (h0 : Heap) (n0 : Nat) (Z0 : n0 ≤ h0.size) (E2 : Exa Z h0 a2 "com/example/covenant/covenant/lang/IntegerTerm") :
    MetFree l (⟨"com/example/covenant/covenant/lang/Variable", "equals", "(Ljava/lang/Object;)Z"⟩ : MethodName) (head1 (Jvm.Cond.code (⟨"com/example/covenant/covenant/lang/Variable", "equals", "(Ljava/lang/Object;)Z"⟩ : MethodName) prog_59_method_17_code 3 (some .boolean) :: ws) ({ frames := 0, cells := 0, slots := 0, locals := 0 } : Room)) (fun a U => a = #[(.ref a1), (.ref a2)] ∧ Z.Warmed39 U.vm ∧ U.heap = h0) (fun _ _ _ _ _ => True) (fun _ U o U' => ∃ v L, o = .returned v ∧ Q10t Z a1 a2 h0 n0 v U'.heap L ∧ FrameEnd U o U' L ({ frames := 0, cells := 0, slots := 0, locals := 0 } : Room).cells ({ frames := 0, cells := 0, slots := 0, locals := 0 } : Room).slots) := by
  refine MetFree.of_bodySF (plainFor_of_name pn_0) hisR ?_
  intro p e s m args below meth c s₁ Bd hml0 hP hK
  obtain ⟨rfl, hZ, hh⟩ := hP
  have hx := Bd.exec
  have hby := Bd.bytes
  have hml : c.maxLocals = 3 := hml0
  have hown : s.vm.findClass "com/example/covenant/covenant/lang/Variable" = some m.cls := findClass_of_methodNamed Bd.named
  have hnm := (name_of_methodNamed Bd.named Bd.method).1
  have X0 : Stand p l e ({ frames := 0, cells := 0, slots := 0, locals := 0 } : Room) s m #[(.ref a1), (.ref a2)] below meth c s₁ [] 0 0 := Stand.of_body Bd
  have e0 : s₁.heap = h0 := by rw [← hh, Bd.state]; rfl
  have N0 := Fr.nil n0
  show Go p e below s (Q10t Z a1 a2 h0 n0) ({ frames := 0, cells := 0, slots := 0, locals := 0 } : Room).cells ({ frames := 0, cells := 0, slots := 0, locals := 0 } : Room).slots _
  refine Go.via (S' := s₁.setTop (mkF m 0 #[.val (.ref a1), .val (.ref a2), .unset] [])) (fun t k => castTop (ef_10t m a1 a2) k) ?_
  refine Go.via (S' := s₁.setTop (mkF m 1 #[.val (.ref a1), .val (.ref a2), .unset] [(.ref a2)])) (fun _ k => XS.aloadN X0.here hx rfl (hb hby d10_0) rfl rfl k) ?_
  obtain ⟨T2, X2, e2, st2⟩ := instNo X0 hx hZ hown (hw _ (List.mem_of_getElem? (i := 51) rfl)) e0 E2 (own_no (hw _ (List.mem_of_getElem? (i := 67) rfl)) (hw _ (List.mem_of_getElem? (i := 31) rfl)) (NS.step (hw _ (List.mem_of_getElem? (i := 67) rfl)) (own_root (hw _ (List.mem_of_getElem? (i := 68) rfl)) (hw _ (List.mem_of_getElem? (i := 31) rfl)) (by decide)) (by decide)) (by decide)) (g := (mkF m 1 #[.val (.ref a1), .val (.ref a2), .unset] [(.ref a2)])) rfl rfl (hb hby d10_1)
  refine Go.via (S' := T2.setTop (mkF m 4 #[.val (.ref a1), .val (.ref a2), .unset] [(.int (0 : Int32))])) (fun _ k => st2 _ k) ?_
  refine Go.via (S' := T2.setTop (mkF m 39 #[.val (.ref a1), .val (.ref a2), .unset] [])) (fun _ k => XS.ifYes X2.here hx rfl (pc0 := 4) (pc' := 39) rfl (hb hby d10_4) rfl ((if0 _ _).trans (teq (by decide)).1) (by decide) (by decide) k) ?_
  refine Go.via (S' := T2.setTop (mkF m 40 #[.val (.ref a1), .val (.ref a2), .unset] [(.int (0 : Int32))])) (fun _ k => XS.iconst X2.here hx rfl (hb hby d10_39) k) ?_
  exact Go.retB X2 hx (BodyLoose.notSynchronized Bd) Bd.returns (hb hby d10_40) rfl (by rw [e2]; exact ⟨rfl, N0, rfl⟩) (by decide) (by decide)
theorem pd_1 : parseMethodDescriptor "([C)V" = some ⟨[(.array .char)], none⟩ := by decide +kernel
theorem pd_2 : parseMethodDescriptor "(Ljava/lang/String;I)V" = some ⟨[(.object "java/lang/String"), .int], none⟩ := by decide +kernel
theorem pd_3 : parseMethodDescriptor "(J)Lcom/example/covenant/covenant/lang/Variable;" = some ⟨[.long], some (.object "com/example/covenant/covenant/lang/Variable")⟩ := by decide +kernel
theorem pd_4 : parseMethodDescriptor "(Ljava/lang/Object;)Z" = some ⟨[(.object "java/lang/Object")], some .boolean⟩ := by decide +kernel
theorem pd_5 : parseMethodDescriptor "(J)V" = some ⟨[.long], none⟩ := by decide +kernel
theorem pn_2 : plainName "com/example/covenant/covenant/lang/VariableEqualsPinLaw" = true := by first | (simp [plainName, overriddenIn]; done) | decide +kernel
theorem ef_0 (m : MethodId) (x0 : Int32) (x1 : Int32) (x2 : Int64) (x3 : Int64) (x4 : Int32) (x5 : Int32) : entryFrame m #[(.int x0), (.int x1), (.long x2), (.long x3), (.int x4), (.int x5)] maxLocals = mkF m 0 #[.val (.int x0), .val (.int x1), .val (.long x2), .second, .val (.long x3), .second, .val (.int x4), .val (.int x5), .unset, .unset, .unset, .unset, .unset, .unset, .unset, .unset, .unset, .unset, .unset, .unset] [] := by first | (simp [entryFrame, mkF, argsToLocals, Value.category, maxLocals]; done) | rfl
def Q0 (Z : State) (p1 : Int32) (p2 : Int32) (q3 : Int64) (q4 : Int64) (p5 : Int32) (p6 : Int32) (G1 : Int32) (h0 : Heap) (n0 : Nat) (v : Option Value) (h : Heap) (L : List Loc) : Prop := v = some (.int 1) ∧ Fr n0 L
set_option maxRecDepth 65536 in
set_option maxHeartbeats 40000000 in
theorem rm0 (l : Launch) (Z : State) (a0 : Array Value) (hw : ∀ d ∈ tables_1, d.before a0 Z = true) (ws : List Jvm.Cond) (p1 : Int32) (p2 : Int32) (q3 : Int64) (q4 : Int64) (p5 : Int32) (p6 : Int32) (G1 : Int32) (h0 : Heap) (n0 : Nat) (Z0 : n0 ≤ h0.size) (X00 : Old Z n0 h0) (O2 : Sta Z Z.heap "java/lang/String" "COMPACT_STRINGS" "Z" (.int G1)) (P5 : ¬ G1 = (0 : Int32)) :
    MetFree l x (head1 (Jvm.Cond.code x code maxLocals ret :: ws) room_1) (fun a U => a = #[(.int p1), (.int p2), (.long q3), (.long q4), (.int p5), (.int p6)] ∧ Z.Warmed39 U.vm ∧ U.heap = h0) (fun _ _ _ _ _ => True) (fun _ U o U' => ∃ v L, o = .returned v ∧ Q0 Z p1 p2 q3 q4 p5 p6 G1 h0 n0 v U'.heap L ∧ FrameEnd U o U' L room_1.cells room_1.slots) := by
  refine MetFree.of_bodySF (plainFor_of_name pn_2) hisR ?_
  intro p e s m args below meth c s₁ Bd hml0 hP hK
  obtain ⟨rfl, hZ, hh⟩ := hP
  have hx := Bd.exec
  have hby := Bd.bytes
  have hml : c.maxLocals = 20 := hml0
  have hown : s.vm.findClass "com/example/covenant/covenant/lang/VariableEqualsPinLaw" = some m.cls := findClass_of_methodNamed Bd.named
  have hnm := (name_of_methodNamed Bd.named Bd.method).1
  have X0 : Stand p l e room_1 s m #[(.int p1), (.int p2), (.long q3), (.long q4), (.int p5), (.int p6)] below meth c s₁ [] 0 0 := Stand.of_body Bd
  have e0 : s₁.heap = h0 := by rw [← hh, Bd.state]; rfl
  have N0 := Fr.nil n0
  show Go p e below s (Q0 Z p1 p2 q3 q4 p5 p6 G1 h0 n0) room_1.cells room_1.slots _
  refine Go.via (S' := s₁.setTop (mkF m 0 #[.val (.int p1), .val (.int p2), .val (.long q3), .second, .val (.long q4), .second, .val (.int p5), .val (.int p6), .unset, .unset, .unset, .unset, .unset, .unset, .unset, .unset, .unset, .unset, .unset, .unset] [])) (fun t k => castTop (ef_0 m p1 p2 q3 q4 p5 p6) k) ?_
  have hws : ∀ d ∈ StrChars.Road.words, d.before a0 Z = true := fun d hd => hw d ((by decide +kernel : ∀ d ∈ StrChars.Road.words, d ∈ tables_1) d hd)
  suffices J14 : ∀ (ii : Int32), Go p e below s (Q0 Z p1 p2 q3 q4 p5 p6 G1 h0 n0) room_1.cells room_1.slots (s₁.setTop (mkF m 14 #[.val (.int p1), .val (.int p2), .val (.long q3), .second, .val (.long q4), .second, .val (.int p5), .val (.int p6), .val (.int ii), .unset, .unset, .unset, .unset, .unset, .unset, .unset, .unset, .unset, .unset, .unset] [])) by
    refine Go.via (S' := s₁.setTop (mkF m 2 #[.val (.int p1), .val (.int p2), .val (.long q3), .second, .val (.long q4), .second, .val (.int p5), .val (.int p6), .unset, .unset, .unset, .unset, .unset, .unset, .unset, .unset, .unset, .unset, .unset, .unset] [(.int p6)])) (fun _ k => XS.iload X0.here hx rfl (hb hby at_0) rfl k) ?_
    refine Go.via (S' := s₁.setTop (mkF m 3 #[.val (.int p1), .val (.int p2), .val (.long q3), .second, .val (.long q4), .second, .val (.int p5), .val (.int p6), .unset, .unset, .unset, .unset, .unset, .unset, .unset, .unset, .unset, .unset, .unset, .unset] [(.int (2 : Int32)), (.int p6)])) (fun _ k => XS.iconst X0.here hx rfl (hb hby at_2) k) ?_
    refine Go.via (S' := s₁.setTop (mkF m 4 #[.val (.int p1), .val (.int p2), .val (.long q3), .second, .val (.long q4), .second, .val (.int p5), .val (.int p6), .unset, .unset, .unset, .unset, .unset, .unset, .unset, .unset, .unset, .unset, .unset, .unset] [(.int (p6 &&& (2 : Int32)))])) (fun _ k => XS.iand X0.here hx rfl (hb hby at_3) rfl k) ?_
    rcases Decidable.em ((p6 &&& (2 : Int32)) = (0 : Int32)) with hc4 | hc4
    · refine Go.via (S' := s₁.setTop (mkF m 11 #[.val (.int p1), .val (.int p2), .val (.long q3), .second, .val (.long q4), .second, .val (.int p5), .val (.int p6), .unset, .unset, .unset, .unset, .unset, .unset, .unset, .unset, .unset, .unset, .unset, .unset] [])) (fun _ k => XS.ifYes X0.here hx rfl (pc0 := 4) (pc' := 11) rfl (hb hby at_4) rfl ((if0 _ _).trans (teq hc4).1) (by decide) (by decide) k) ?_
      refine Go.via (S' := s₁.setTop (mkF m 12 #[.val (.int p1), .val (.int p2), .val (.long q3), .second, .val (.long q4), .second, .val (.int p5), .val (.int p6), .unset, .unset, .unset, .unset, .unset, .unset, .unset, .unset, .unset, .unset, .unset, .unset] [(.int p2)])) (fun _ k => XS.iloadN X0.here hx rfl (hb hby at_11) rfl k) ?_
      refine Go.via (S' := s₁.setTop (mkF m 14 #[.val (.int p1), .val (.int p2), .val (.long q3), .second, .val (.long q4), .second, .val (.int p5), .val (.int p6), .val (.int p2), .unset, .unset, .unset, .unset, .unset, .unset, .unset, .unset, .unset, .unset, .unset] [])) (fun _ k => XS.istore X0.here hx rfl (hb hby at_12) rfl (l' := #[.val (.int p1), .val (.int p2), .val (.long q3), .second, .val (.long q4), .second, .val (.int p5), .val (.int p6), .val (.int p2), .unset, .unset, .unset, .unset, .unset, .unset, .unset, .unset, .unset, .unset, .unset]) rfl k) ?_
      exact J14 _
    · refine Go.via (S' := s₁.setTop (mkF m 7 #[.val (.int p1), .val (.int p2), .val (.long q3), .second, .val (.long q4), .second, .val (.int p5), .val (.int p6), .unset, .unset, .unset, .unset, .unset, .unset, .unset, .unset, .unset, .unset, .unset, .unset] [])) (fun _ k => XS.ifNo X0.here hx rfl (hb hby at_4) rfl ((if0 _ _).trans (feq hc4).1) k) ?_
      refine Go.via (S' := s₁.setTop (mkF m 8 #[.val (.int p1), .val (.int p2), .val (.long q3), .second, .val (.long q4), .second, .val (.int p5), .val (.int p6), .unset, .unset, .unset, .unset, .unset, .unset, .unset, .unset, .unset, .unset, .unset, .unset] [(.int p1)])) (fun _ k => XS.iloadN X0.here hx rfl (hb hby at_7) rfl k) ?_
      refine Go.via (S' := s₁.setTop (mkF m 12 #[.val (.int p1), .val (.int p2), .val (.long q3), .second, .val (.long q4), .second, .val (.int p5), .val (.int p6), .unset, .unset, .unset, .unset, .unset, .unset, .unset, .unset, .unset, .unset, .unset, .unset] [(.int p1)])) (fun _ k => XS.goto X0.here hx rfl (pc0 := 8) (pc' := 12) rfl (hb hby at_8) (by decide) (by decide) k) ?_
      refine Go.via (S' := s₁.setTop (mkF m 14 #[.val (.int p1), .val (.int p2), .val (.long q3), .second, .val (.long q4), .second, .val (.int p5), .val (.int p6), .val (.int p1), .unset, .unset, .unset, .unset, .unset, .unset, .unset, .unset, .unset, .unset, .unset] [])) (fun _ k => XS.istore X0.here hx rfl (hb hby at_12) rfl (l' := #[.val (.int p1), .val (.int p2), .val (.long q3), .second, .val (.long q4), .second, .val (.int p5), .val (.int p6), .val (.int p1), .unset, .unset, .unset, .unset, .unset, .unset, .unset, .unset, .unset, .unset, .unset]) rfl k) ?_
      exact J14 _
  intro ii
  suffices J29 : ∀ (ss : Int64), Go p e below s (Q0 Z p1 p2 q3 q4 p5 p6 G1 h0 n0) room_1.cells room_1.slots (s₁.setTop (mkF m 29 #[.val (.int p1), .val (.int p2), .val (.long q3), .second, .val (.long q4), .second, .val (.int p5), .val (.int p6), .val (.int ii), .val (.long ss), .second, .unset, .unset, .unset, .unset, .unset, .unset, .unset, .unset, .unset] [])) by
    refine Go.via (S' := s₁.setTop (mkF m 16 #[.val (.int p1), .val (.int p2), .val (.long q3), .second, .val (.long q4), .second, .val (.int p5), .val (.int p6), .val (.int ii), .unset, .unset, .unset, .unset, .unset, .unset, .unset, .unset, .unset, .unset, .unset] [(.int p6)])) (fun _ k => XS.iload X0.here hx rfl (hb hby at_14) rfl k) ?_
    refine Go.via (S' := s₁.setTop (mkF m 17 #[.val (.int p1), .val (.int p2), .val (.long q3), .second, .val (.long q4), .second, .val (.int p5), .val (.int p6), .val (.int ii), .unset, .unset, .unset, .unset, .unset, .unset, .unset, .unset, .unset, .unset, .unset] [(.int (4 : Int32)), (.int p6)])) (fun _ k => XS.iconst X0.here hx rfl (hb hby at_16) k) ?_
    refine Go.via (S' := s₁.setTop (mkF m 18 #[.val (.int p1), .val (.int p2), .val (.long q3), .second, .val (.long q4), .second, .val (.int p5), .val (.int p6), .val (.int ii), .unset, .unset, .unset, .unset, .unset, .unset, .unset, .unset, .unset, .unset, .unset] [(.int (p6 &&& (4 : Int32)))])) (fun _ k => XS.iand X0.here hx rfl (hb hby at_17) rfl k) ?_
    rcases Decidable.em ((p6 &&& (4 : Int32)) = (0 : Int32)) with hc18 | hc18
    · refine Go.via (S' := s₁.setTop (mkF m 25 #[.val (.int p1), .val (.int p2), .val (.long q3), .second, .val (.long q4), .second, .val (.int p5), .val (.int p6), .val (.int ii), .unset, .unset, .unset, .unset, .unset, .unset, .unset, .unset, .unset, .unset, .unset] [])) (fun _ k => XS.ifYes X0.here hx rfl (pc0 := 18) (pc' := 25) rfl (hb hby at_18) rfl ((if0 _ _).trans (teq hc18).1) (by decide) (by decide) k) ?_
      refine Go.via (S' := s₁.setTop (mkF m 27 #[.val (.int p1), .val (.int p2), .val (.long q3), .second, .val (.long q4), .second, .val (.int p5), .val (.int p6), .val (.int ii), .unset, .unset, .unset, .unset, .unset, .unset, .unset, .unset, .unset, .unset, .unset] [(.long q4)])) (fun _ k => XS.lload X0.here hx rfl (hb hby at_25) rfl k) ?_
      refine Go.via (S' := s₁.setTop (mkF m 29 #[.val (.int p1), .val (.int p2), .val (.long q3), .second, .val (.long q4), .second, .val (.int p5), .val (.int p6), .val (.int ii), .val (.long q4), .second, .unset, .unset, .unset, .unset, .unset, .unset, .unset, .unset, .unset] [])) (fun _ k => XS.lstore X0.here hx rfl (hb hby at_27) rfl (l' := #[.val (.int p1), .val (.int p2), .val (.long q3), .second, .val (.long q4), .second, .val (.int p5), .val (.int p6), .val (.int ii), .val (.long q4), .second, .unset, .unset, .unset, .unset, .unset, .unset, .unset, .unset, .unset]) rfl k) ?_
      exact J29 _
    · refine Go.via (S' := s₁.setTop (mkF m 21 #[.val (.int p1), .val (.int p2), .val (.long q3), .second, .val (.long q4), .second, .val (.int p5), .val (.int p6), .val (.int ii), .unset, .unset, .unset, .unset, .unset, .unset, .unset, .unset, .unset, .unset, .unset] [])) (fun _ k => XS.ifNo X0.here hx rfl (hb hby at_18) rfl ((if0 _ _).trans (feq hc18).1) k) ?_
      refine Go.via (S' := s₁.setTop (mkF m 22 #[.val (.int p1), .val (.int p2), .val (.long q3), .second, .val (.long q4), .second, .val (.int p5), .val (.int p6), .val (.int ii), .unset, .unset, .unset, .unset, .unset, .unset, .unset, .unset, .unset, .unset, .unset] [(.long q3)])) (fun _ k => XS.lloadN X0.here hx rfl (hb hby at_21) rfl k) ?_
      refine Go.via (S' := s₁.setTop (mkF m 27 #[.val (.int p1), .val (.int p2), .val (.long q3), .second, .val (.long q4), .second, .val (.int p5), .val (.int p6), .val (.int ii), .unset, .unset, .unset, .unset, .unset, .unset, .unset, .unset, .unset, .unset, .unset] [(.long q3)])) (fun _ k => XS.goto X0.here hx rfl (pc0 := 22) (pc' := 27) rfl (hb hby at_22) (by decide) (by decide) k) ?_
      refine Go.via (S' := s₁.setTop (mkF m 29 #[.val (.int p1), .val (.int p2), .val (.long q3), .second, .val (.long q4), .second, .val (.int p5), .val (.int p6), .val (.int ii), .val (.long q3), .second, .unset, .unset, .unset, .unset, .unset, .unset, .unset, .unset, .unset] [])) (fun _ k => XS.lstore X0.here hx rfl (hb hby at_27) rfl (l' := #[.val (.int p1), .val (.int p2), .val (.long q3), .second, .val (.long q4), .second, .val (.int p5), .val (.int p6), .val (.int ii), .val (.long q3), .second, .unset, .unset, .unset, .unset, .unset, .unset, .unset, .unset, .unset]) rfl k) ?_
      exact J29 _
  intro ss
  obtain ⟨T1, h1, X1, e1, E1, A1, D1, -, st1⟩ := newO X0 hx hZ hown (hw _ (List.mem_of_getElem? (i := 0) rfl)) (hw _ (List.mem_of_getElem? (i := 1) rfl)) (hw _ (List.mem_of_getElem? (i := 2) rfl)) e0 (g := (mkF m 29 #[.val (.int p1), .val (.int p2), .val (.long q3), .second, .val (.long q4), .second, .val (.int p5), .val (.int p6), .val (.int ii), .val (.long ss), .second, .unset, .unset, .unset, .unset, .unset, .unset, .unset, .unset, .unset] [])) rfl (hb hby at_29) (by decide) (by decide)
  obtain ⟨b1, g1⟩ : ∃ z, z = h0.size := ⟨_, rfl⟩
  rw [← g1] at A1 D1 st1
  have g2 : n0 ≤ b1 := Nat.le_trans Z0 (Nat.le_of_eq g1.symm)
  have f3 := X00.ext E1
  have z4 := Nat.le_trans Z0 E1.1
  have F5 : Fld Z h1 b1 "java/lang/String" "coder" "B" (.int (0 : Int32)) := D1 (Or.inr (hw _ (List.mem_of_getElem? (i := 27) rfl))) (ty := .byte) (by decide)
  have F6 : Fld Z h1 b1 "java/lang/String" "value" "[B" .null := D1 (Or.inr (hw _ (List.mem_of_getElem? (i := 29) rfl))) (ty := (.array .byte)) (by decide)
  refine Go.via (S' := T1.setTop (mkF m 32 #[.val (.int p1), .val (.int p2), .val (.long q3), .second, .val (.long q4), .second, .val (.int p5), .val (.int p6), .val (.int ii), .val (.long ss), .second, .unset, .unset, .unset, .unset, .unset, .unset, .unset, .unset, .unset] [(.ref b1)])) (fun _ k => st1 _ k) ?_
  refine Go.via (S' := T1.setTop (mkF m 33 #[.val (.int p1), .val (.int p2), .val (.long q3), .second, .val (.long q4), .second, .val (.int p5), .val (.int p6), .val (.int ii), .val (.long ss), .second, .unset, .unset, .unset, .unset, .unset, .unset, .unset, .unset, .unset] [(.ref b1), (.ref b1)])) (fun _ k => XS.dup X1.here hx rfl (hb hby at_32) rfl rfl k) ?_
  refine Go.via (S' := T1.setTop (mkF m 34 #[.val (.int p1), .val (.int p2), .val (.long q3), .second, .val (.long q4), .second, .val (.int p5), .val (.int p6), .val (.int ii), .val (.long ss), .second, .unset, .unset, .unset, .unset, .unset, .unset, .unset, .unset, .unset] [(.int (2 : Int32)), (.ref b1), (.ref b1)])) (fun _ k => XS.iconst X1.here hx rfl (hb hby at_33) k) ?_
  obtain ⟨T7, h7, k7, X7, e7, E7, A7, st7⟩ := newP X1 hx hZ (hw _ (List.mem_of_getElem? (i := 3) rfl)) e1 (g := (mkF m 34 #[.val (.int p1), .val (.int p2), .val (.long q3), .second, .val (.long q4), .second, .val (.int p5), .val (.int p6), .val (.int ii), .val (.long ss), .second, .unset, .unset, .unset, .unset, .unset, .unset, .unset, .unset, .unset] [(.int (2 : Int32)), (.ref b1), (.ref b1)])) rfl (hb hby at_34) rfl (by decide) (cap := 2) (by decide) (by decide) (by decide) (by decide)
  obtain ⟨b7, g7⟩ : ∃ z, z = h1.size := ⟨_, rfl⟩
  rw [← g7] at A7 st7
  have ne8 : b1 ≠ b7 := Nat.ne_of_lt (Nat.lt_of_lt_of_le A1.lt (Nat.le_of_eq g7.symm))
  have g9 : n0 ≤ b7 := Nat.le_trans z4 (Nat.le_of_eq g7.symm)
  have f10 := f3.ext E7
  have f11 := A1.ext E7
  have f12 := F5.ext E7
  have f13 := F6.ext E7
  have z14 := Nat.le_trans z4 E7.1
  have V15 : Arv Z h7 b7 k7 .char (2 : Int32) [(.int (0 : Int32)), (.int (0 : Int32))] (.int (0 : Int32)) := (Arv.new A7 (by decide)).pad (pad_rep [] (.int (0 : Int32)) 2)
  refine Go.via (S' := T7.setTop (mkF m 36 #[.val (.int p1), .val (.int p2), .val (.long q3), .second, .val (.long q4), .second, .val (.int p5), .val (.int p6), .val (.int ii), .val (.long ss), .second, .unset, .unset, .unset, .unset, .unset, .unset, .unset, .unset, .unset] [(.ref b7), (.ref b1), (.ref b1)])) (fun _ k => st7 _ k) ?_
  refine Go.via (S' := T7.setTop (mkF m 37 #[.val (.int p1), .val (.int p2), .val (.long q3), .second, .val (.long q4), .second, .val (.int p5), .val (.int p6), .val (.int ii), .val (.long ss), .second, .unset, .unset, .unset, .unset, .unset, .unset, .unset, .unset, .unset] [(.ref b7), (.ref b7), (.ref b1), (.ref b1)])) (fun _ k => XS.dup X7.here hx rfl (hb hby at_36) rfl rfl k) ?_
  refine Go.via (S' := T7.setTop (mkF m 38 #[.val (.int p1), .val (.int p2), .val (.long q3), .second, .val (.long q4), .second, .val (.int p5), .val (.int p6), .val (.int ii), .val (.long ss), .second, .unset, .unset, .unset, .unset, .unset, .unset, .unset, .unset, .unset] [(.int (0 : Int32)), (.ref b7), (.ref b7), (.ref b1), (.ref b1)])) (fun _ k => XS.iconst X7.here hx rfl (hb hby at_37) k) ?_
  refine Go.via (S' := T7.setTop (mkF m 40 #[.val (.int p1), .val (.int p2), .val (.long q3), .second, .val (.long q4), .second, .val (.int p5), .val (.int p6), .val (.int ii), .val (.long ss), .second, .unset, .unset, .unset, .unset, .unset, .unset, .unset, .unset, .unset] [(.int p5), (.int (0 : Int32)), (.ref b7), (.ref b7), (.ref b1), (.ref b1)])) (fun _ k => XS.iload X7.here hx rfl (hb hby at_38) rfl k) ?_
  refine Go.via (S' := T7.setTop (mkF m 43 #[.val (.int p1), .val (.int p2), .val (.long q3), .second, .val (.long q4), .second, .val (.int p5), .val (.int p6), .val (.int ii), .val (.long ss), .second, .unset, .unset, .unset, .unset, .unset, .unset, .unset, .unset, .unset] [(.int (255 : Int32)), (.int p5), (.int (0 : Int32)), (.ref b7), (.ref b7), (.ref b1), (.ref b1)])) (fun _ k => XS.sipush X7.here hx rfl (hb hby at_40) k) ?_
  refine Go.via (S' := T7.setTop (mkF m 44 #[.val (.int p1), .val (.int p2), .val (.long q3), .second, .val (.long q4), .second, .val (.int p5), .val (.int p6), .val (.int ii), .val (.long ss), .second, .unset, .unset, .unset, .unset, .unset, .unset, .unset, .unset, .unset] [(.int (p5 &&& (255 : Int32))), (.int (0 : Int32)), (.ref b7), (.ref b7), (.ref b1), (.ref b1)])) (fun _ k => XS.iand X7.here hx rfl (hb hby at_43) rfl k) ?_
  refine Go.via (S' := T7.setTop (mkF m 45 #[.val (.int p1), .val (.int p2), .val (.long q3), .second, .val (.long q4), .second, .val (.int p5), .val (.int p6), .val (.int ii), .val (.long ss), .second, .unset, .unset, .unset, .unset, .unset, .unset, .unset, .unset, .unset] [(.int ((p5 &&& (255 : Int32)).toUInt32.toUInt16.toUInt32.toInt32)), (.int (0 : Int32)), (.ref b7), (.ref b7), (.ref b1), (.ref b1)])) (fun _ k => XS.i2c X7.here hx rfl (hb hby at_44) rfl k) ?_
  obtain ⟨c16, Ar16, q16, S16, M16, H16, G16⟩ := id V15
  obtain ⟨T16, h16, X16, e16, W16, st16⟩ := stC X7 hx hZ e7 Ar16 (j := (0 : Int32)) (inb_of S16 ⟨by decide, by decide⟩) (g := (mkF m 45 #[.val (.int p1), .val (.int p2), .val (.long q3), .second, .val (.long q4), .second, .val (.int p5), .val (.int p6), .val (.int ii), .val (.long ss), .second, .unset, .unset, .unset, .unset, .unset, .unset, .unset, .unset, .unset] [(.int ((p5 &&& (255 : Int32)).toUInt32.toUInt16.toUInt32.toInt32)), (.int (0 : Int32)), (.ref b7), (.ref b7), (.ref b1), (.ref b1)])) rfl rfl (hb hby at_45)
  have V17 : Arv Z h16 b7 k7 .char (2 : Int32) [(.int (nar .char ((p5 &&& (255 : Int32)).toUInt32.toUInt16.toUInt32.toInt32))), (.int (0 : Int32))] (.int (0 : Int32)) := Arv.set Ar16 q16 S16 M16 H16 G16 (fits_nar_char _) W16 0 rfl (Nat.le_of_ble_eq_true rfl)
  have N18 := Fr.snoc X16 N0 g9
  have f19 := f10.wr W16 g9
  have f20 := f11.wr W16
  have f21 := f12.other W16 (Or.inl ne8)
  have f22 := f13.other W16 (Or.inl ne8)
  have z23 := Nat.le_trans z14 (Keep.of_wr W16).1
  refine Go.via (S' := T16.setTop (mkF m 46 #[.val (.int p1), .val (.int p2), .val (.long q3), .second, .val (.long q4), .second, .val (.int p5), .val (.int p6), .val (.int ii), .val (.long ss), .second, .unset, .unset, .unset, .unset, .unset, .unset, .unset, .unset, .unset] [(.ref b7), (.ref b1), (.ref b1)])) (fun _ k => st16 _ k) ?_
  refine Go.via (S' := T16.setTop (mkF m 47 #[.val (.int p1), .val (.int p2), .val (.long q3), .second, .val (.long q4), .second, .val (.int p5), .val (.int p6), .val (.int ii), .val (.long ss), .second, .unset, .unset, .unset, .unset, .unset, .unset, .unset, .unset, .unset] [(.ref b7), (.ref b7), (.ref b1), (.ref b1)])) (fun _ k => XS.dup X16.here hx rfl (hb hby at_46) rfl rfl k) ?_
  refine Go.via (S' := T16.setTop (mkF m 48 #[.val (.int p1), .val (.int p2), .val (.long q3), .second, .val (.long q4), .second, .val (.int p5), .val (.int p6), .val (.int ii), .val (.long ss), .second, .unset, .unset, .unset, .unset, .unset, .unset, .unset, .unset, .unset] [(.int (1 : Int32)), (.ref b7), (.ref b7), (.ref b1), (.ref b1)])) (fun _ k => XS.iconst X16.here hx rfl (hb hby at_47) k) ?_
  refine Go.via (S' := T16.setTop (mkF m 50 #[.val (.int p1), .val (.int p2), .val (.long q3), .second, .val (.long q4), .second, .val (.int p5), .val (.int p6), .val (.int ii), .val (.long ss), .second, .unset, .unset, .unset, .unset, .unset, .unset, .unset, .unset, .unset] [(.int p5), (.int (1 : Int32)), (.ref b7), (.ref b7), (.ref b1), (.ref b1)])) (fun _ k => XS.iload X16.here hx rfl (hb hby at_48) rfl k) ?_
  refine Go.via (S' := T16.setTop (mkF m 52 #[.val (.int p1), .val (.int p2), .val (.long q3), .second, .val (.long q4), .second, .val (.int p5), .val (.int p6), .val (.int ii), .val (.long ss), .second, .unset, .unset, .unset, .unset, .unset, .unset, .unset, .unset, .unset] [(.int (8 : Int32)), (.int p5), (.int (1 : Int32)), (.ref b7), (.ref b7), (.ref b1), (.ref b1)])) (fun _ k => XS.bipush X16.here hx rfl (hb hby at_50) k) ?_
  refine Go.via (S' := T16.setTop (mkF m 53 #[.val (.int p1), .val (.int p2), .val (.long q3), .second, .val (.long q4), .second, .val (.int p5), .val (.int p6), .val (.int ii), .val (.long ss), .second, .unset, .unset, .unset, .unset, .unset, .unset, .unset, .unset, .unset] [(.int ((p5.toUInt32 >>> ((8 : Int32) &&& 31).toUInt32).toInt32)), (.int (1 : Int32)), (.ref b7), (.ref b7), (.ref b1), (.ref b1)])) (fun _ k => XS.iushr X16.here hx rfl (hb hby at_52) rfl k) ?_
  refine Go.via (S' := T16.setTop (mkF m 56 #[.val (.int p1), .val (.int p2), .val (.long q3), .second, .val (.long q4), .second, .val (.int p5), .val (.int p6), .val (.int ii), .val (.long ss), .second, .unset, .unset, .unset, .unset, .unset, .unset, .unset, .unset, .unset] [(.int (255 : Int32)), (.int ((p5.toUInt32 >>> ((8 : Int32) &&& 31).toUInt32).toInt32)), (.int (1 : Int32)), (.ref b7), (.ref b7), (.ref b1), (.ref b1)])) (fun _ k => XS.sipush X16.here hx rfl (hb hby at_53) k) ?_
  refine Go.via (S' := T16.setTop (mkF m 57 #[.val (.int p1), .val (.int p2), .val (.long q3), .second, .val (.long q4), .second, .val (.int p5), .val (.int p6), .val (.int ii), .val (.long ss), .second, .unset, .unset, .unset, .unset, .unset, .unset, .unset, .unset, .unset] [(.int (((p5.toUInt32 >>> ((8 : Int32) &&& 31).toUInt32).toInt32) &&& (255 : Int32))), (.int (1 : Int32)), (.ref b7), (.ref b7), (.ref b1), (.ref b1)])) (fun _ k => XS.iand X16.here hx rfl (hb hby at_56) rfl k) ?_
  refine Go.via (S' := T16.setTop (mkF m 58 #[.val (.int p1), .val (.int p2), .val (.long q3), .second, .val (.long q4), .second, .val (.int p5), .val (.int p6), .val (.int ii), .val (.long ss), .second, .unset, .unset, .unset, .unset, .unset, .unset, .unset, .unset, .unset] [(.int ((((p5.toUInt32 >>> ((8 : Int32) &&& 31).toUInt32).toInt32) &&& (255 : Int32)).toUInt32.toUInt16.toUInt32.toInt32)), (.int (1 : Int32)), (.ref b7), (.ref b7), (.ref b1), (.ref b1)])) (fun _ k => XS.i2c X16.here hx rfl (hb hby at_57) rfl k) ?_
  obtain ⟨c24, Ar24, q24, S24, M24, H24, G24⟩ := id V17
  obtain ⟨T24, h24, X24, e24, W24, st24⟩ := stC X16 hx hZ e16 Ar24 (j := (1 : Int32)) (inb_of S24 ⟨by decide, by decide⟩) (g := (mkF m 58 #[.val (.int p1), .val (.int p2), .val (.long q3), .second, .val (.long q4), .second, .val (.int p5), .val (.int p6), .val (.int ii), .val (.long ss), .second, .unset, .unset, .unset, .unset, .unset, .unset, .unset, .unset, .unset] [(.int ((((p5.toUInt32 >>> ((8 : Int32) &&& 31).toUInt32).toInt32) &&& (255 : Int32)).toUInt32.toUInt16.toUInt32.toInt32)), (.int (1 : Int32)), (.ref b7), (.ref b7), (.ref b1), (.ref b1)])) rfl rfl (hb hby at_58)
  have V25 : Arv Z h24 b7 k7 .char (2 : Int32) [(.int (nar .char ((p5 &&& (255 : Int32)).toUInt32.toUInt16.toUInt32.toInt32))), (.int (nar .char ((((p5.toUInt32 >>> ((8 : Int32) &&& 31).toUInt32).toInt32) &&& (255 : Int32)).toUInt32.toUInt16.toUInt32.toInt32)))] (.int (0 : Int32)) := Arv.set Ar24 q24 S24 M24 H24 G24 (fits_nar_char _) W24 1 rfl (Nat.le_of_ble_eq_true rfl)
  have N26 := Fr.snoc X24 N18 g9
  have f27 := f19.wr W24 g9
  have f28 := f20.wr W24
  have f29 := f21.other W24 (Or.inl ne8)
  have f30 := f22.other W24 (Or.inl ne8)
  have z31 := Nat.le_trans z23 (Keep.of_wr W24).1
  refine Go.via (S' := T24.setTop (mkF m 59 #[.val (.int p1), .val (.int p2), .val (.long q3), .second, .val (.long q4), .second, .val (.int p5), .val (.int p6), .val (.int ii), .val (.long ss), .second, .unset, .unset, .unset, .unset, .unset, .unset, .unset, .unset, .unset] [(.ref b7), (.ref b1), (.ref b1)])) (fun _ k => st24 _ k) ?_
  have hp32 : ∀ c ∈ ([(nar .char ((p5 &&& (255 : Int32)).toUInt32.toUInt16.toUInt32.toInt32)), (nar .char ((((p5.toUInt32 >>> ((8 : Int32) &&& 31).toUInt32).toInt32) &&& (255 : Int32)).toUInt32.toUInt16.toUInt32.toInt32))] : List Int32), ¬ c < 0 ∧ ¬ (255 : Int32) < c := by
    intro c hc
    simp only [List.mem_cons, List.not_mem_nil, or_false] at hc
    rcases hc with rfl | rfl
    · exact and255_chars _
    · exact and255_chars _
  obtain ⟨_, _, ⟨T33, L33, k33, n33⟩, -, X33, ⟨Lc33, hQ33, l33, y33, z33⟩, st33⟩ := X24.specialBack hx (y := (⟨"java/lang/String", "<init>", "([C)V"⟩ : MethodName)) rfl hown (mvT hZ (hw _ (List.mem_of_getElem? (i := 4) rfl))) (mvT hZ (hw _ (List.mem_of_getElem? (i := 5) rfl))) (mvT hZ (hw _ (List.mem_of_getElem? (i := 6) rfl))) (by decide) (StrChars.Road.backV (W := 1) hZ hws (kI := 4) (hw _ (List.mem_of_getElem? (i := 1) rfl)) (cs := ([(nar .char ((p5 &&& (255 : Int32)).toUInt32.toUInt16.toUInt32.toInt32)), (nar .char ((((p5.toUInt32 >>> ((8 : Int32) &&& 31).toUInt32).toInt32) &&& (255 : Int32)).toUInt32.toUInt16.toUInt32.toInt32))] : List Int32)) (bs := (([(nar .char ((p5 &&& (255 : Int32)).toUInt32.toUInt16.toUInt32.toInt32)), (nar .char ((((p5.toUInt32 >>> ((8 : Int32) &&& 31).toUInt32).toInt32) &&& (255 : Int32)).toUInt32.toUInt16.toUInt32.toInt32))] : List Int32)).map (fun c => c.toInt8.toInt32)) (n := 2) g2 z31 f28 f30 f29 V25 (O2.ext f27.2) P5 rfl rfl (by decide) (by decide) hp32 rfl (by decide) (by decide)) (g := (mkF m 59 #[.val (.int p1), .val (.int p2), .val (.long q3), .second, .val (.long q4), .second, .val (.int p5), .val (.int p6), .val (.int ii), .val (.long ss), .second, .unset, .unset, .unset, .unset, .unset, .unset, .unset, .unset, .unset] [(.ref b7), (.ref b1), (.ref b1)])) rfl (by rw [hml]; rfl) (Steps.refl _) (a := b1) (argsL := [(.ref b7)]) (rest := [(.ref b1)]) (lenOf pd_1 rfl) rfl (by show 2 * 0 + _ ≤ _; exact Nat.le_of_eq rfl) (hb hby at_59) (fun _ _ => ⟨rfl, e24, (by decide : 2 + 1 ≤ _), (by decide : 6 + 2 ≤ _)⟩)
  dsimp only [Pt.U, Pt.locs, Pt.cells, Pt.slots] at X33 l33 y33 z33 st33 hQ33
  subst l33 y33 z33
  obtain ⟨rfl, N33q, K33, Ee33, Fc33, t33, kb33, u133, u233, u333, Fv33, Va33⟩ := hQ33
  have N34 := Fr.app N26 N33q
  have f35 := f27.keep K33 (allS g2 all0)
  have f36 := f28.keep K33
  have f37 := V25.keep K33 (ninS (Ne.symm ne8) nin0)
  have z38 := Nat.le_trans z31 K33.1
  refine Go.via (S' := T33.setTop (mkF m 62 #[.val (.int p1), .val (.int p2), .val (.long q3), .second, .val (.long q4), .second, .val (.int p5), .val (.int p6), .val (.int ii), .val (.long ss), .second, .unset, .unset, .unset, .unset, .unset, .unset, .unset, .unset, .unset] [(.ref b1)])) (fun _ k => st33.trans k) ?_
  refine Go.via (S' := T33.setTop (mkF m 64 #[.val (.int p1), .val (.int p2), .val (.long q3), .second, .val (.long q4), .second, .val (.int p5), .val (.int p6), .val (.int ii), .val (.long ss), .second, .val (.ref b1), .unset, .unset, .unset, .unset, .unset, .unset, .unset, .unset] [])) (fun _ k => XS.astore X33.here hx rfl (hb hby at_62) rfl rfl (l' := #[.val (.int p1), .val (.int p2), .val (.long q3), .second, .val (.long q4), .second, .val (.int p5), .val (.int p6), .val (.int ii), .val (.long ss), .second, .val (.ref b1), .unset, .unset, .unset, .unset, .unset, .unset, .unset, .unset]) rfl k) ?_
  suffices J115 : ∀ (T39 : State) (h39 : Heap) (lo39 : List Loc) (nm2 : Addr) (X39 : Stand p l e room_1 s m #[(.int p1), (.int p2), (.long q3), (.long q4), (.int p5), (.int p6)] below meth c T39 lo39 6 16) (e39 : T39.heap = h39) (N39 : Fr n0 lo39) (z39 : n0 ≤ h39.size) (fk39_0 : Old Z n0 h39), Go p e below s (Q0 Z p1 p2 q3 q4 p5 p6 G1 h0 n0) room_1.cells room_1.slots (T39.setTop (mkF m 115 #[.val (.int p1), .val (.int p2), .val (.long q3), .second, .val (.long q4), .second, .val (.int p5), .val (.int p6), .val (.int ii), .val (.long ss), .second, .val (.ref b1), .val (.ref nm2), .unset, .unset, .unset, .unset, .unset, .unset, .unset] [])) by
    refine Go.via (S' := T33.setTop (mkF m 66 #[.val (.int p1), .val (.int p2), .val (.long q3), .second, .val (.long q4), .second, .val (.int p5), .val (.int p6), .val (.int ii), .val (.long ss), .second, .val (.ref b1), .unset, .unset, .unset, .unset, .unset, .unset, .unset, .unset] [(.int p6)])) (fun _ k => XS.iload X33.here hx rfl (hb hby at_64) rfl k) ?_
    refine Go.via (S' := T33.setTop (mkF m 68 #[.val (.int p1), .val (.int p2), .val (.long q3), .second, .val (.long q4), .second, .val (.int p5), .val (.int p6), .val (.int ii), .val (.long ss), .second, .val (.ref b1), .unset, .unset, .unset, .unset, .unset, .unset, .unset, .unset] [(.int (32 : Int32)), (.int p6)])) (fun _ k => XS.bipush X33.here hx rfl (hb hby at_66) k) ?_
    refine Go.via (S' := T33.setTop (mkF m 69 #[.val (.int p1), .val (.int p2), .val (.long q3), .second, .val (.long q4), .second, .val (.int p5), .val (.int p6), .val (.int ii), .val (.long ss), .second, .val (.ref b1), .unset, .unset, .unset, .unset, .unset, .unset, .unset, .unset] [(.int (p6 &&& (32 : Int32)))])) (fun _ k => XS.iand X33.here hx rfl (hb hby at_68) rfl k) ?_
    rcases Decidable.em ((p6 &&& (32 : Int32)) = (0 : Int32)) with hc69 | hc69
    · refine Go.via (S' := T33.setTop (mkF m 77 #[.val (.int p1), .val (.int p2), .val (.long q3), .second, .val (.long q4), .second, .val (.int p5), .val (.int p6), .val (.int ii), .val (.long ss), .second, .val (.ref b1), .unset, .unset, .unset, .unset, .unset, .unset, .unset, .unset] [])) (fun _ k => XS.ifYes X33.here hx rfl (pc0 := 69) (pc' := 77) rfl (hb hby at_69) rfl ((if0 _ _).trans (teq hc69).1) (by decide) (by decide) k) ?_
      obtain ⟨T40, h40, X40, e40, E40, A40, D40, -, st40⟩ := newO X33 hx hZ hown (hw _ (List.mem_of_getElem? (i := 0) rfl)) (hw _ (List.mem_of_getElem? (i := 1) rfl)) (hw _ (List.mem_of_getElem? (i := 2) rfl)) rfl (g := (mkF m 77 #[.val (.int p1), .val (.int p2), .val (.long q3), .second, .val (.long q4), .second, .val (.int p5), .val (.int p6), .val (.int ii), .val (.long ss), .second, .val (.ref b1), .unset, .unset, .unset, .unset, .unset, .unset, .unset, .unset] [])) rfl (hb hby at_77) (by decide) (by decide)
      obtain ⟨b40, g40⟩ : ∃ z, z = T33.heap.size := ⟨_, rfl⟩
      rw [← g40] at A40 D40 st40
      have ne41 : b1 ≠ b40 := Nat.ne_of_lt (Nat.lt_of_lt_of_le f36.lt (Nat.le_of_eq g40.symm))
      have ne42 : b7 ≠ b40 := Nat.ne_of_lt (Nat.lt_of_lt_of_le f37.lt (Nat.le_of_eq g40.symm))
      have g43 : n0 ≤ b40 := Nat.le_trans z38 (Nat.le_of_eq g40.symm)
      have f44 := f35.ext E40
      have f45 := f36.ext E40
      have f46 := f37.ext E40
      have f47 := Fc33.ext E40
      have f48 := Fv33.ext E40
      have z49 := Nat.le_trans z38 E40.1
      have F50 : Fld Z h40 b40 "java/lang/String" "coder" "B" (.int (0 : Int32)) := D40 (Or.inr (hw _ (List.mem_of_getElem? (i := 27) rfl))) (ty := .byte) (by decide)
      have F51 : Fld Z h40 b40 "java/lang/String" "value" "[B" .null := D40 (Or.inr (hw _ (List.mem_of_getElem? (i := 29) rfl))) (ty := (.array .byte)) (by decide)
      refine Go.via (S' := T40.setTop (mkF m 80 #[.val (.int p1), .val (.int p2), .val (.long q3), .second, .val (.long q4), .second, .val (.int p5), .val (.int p6), .val (.int ii), .val (.long ss), .second, .val (.ref b1), .unset, .unset, .unset, .unset, .unset, .unset, .unset, .unset] [(.ref b40)])) (fun _ k => st40 _ k) ?_
      refine Go.via (S' := T40.setTop (mkF m 81 #[.val (.int p1), .val (.int p2), .val (.long q3), .second, .val (.long q4), .second, .val (.int p5), .val (.int p6), .val (.int ii), .val (.long ss), .second, .val (.ref b1), .unset, .unset, .unset, .unset, .unset, .unset, .unset, .unset] [(.ref b40), (.ref b40)])) (fun _ k => XS.dup X40.here hx rfl (hb hby at_80) rfl rfl k) ?_
      refine Go.via (S' := T40.setTop (mkF m 82 #[.val (.int p1), .val (.int p2), .val (.long q3), .second, .val (.long q4), .second, .val (.int p5), .val (.int p6), .val (.int ii), .val (.long ss), .second, .val (.ref b1), .unset, .unset, .unset, .unset, .unset, .unset, .unset, .unset] [(.int (2 : Int32)), (.ref b40), (.ref b40)])) (fun _ k => XS.iconst X40.here hx rfl (hb hby at_81) k) ?_
      obtain ⟨T52, h52, k52, X52, e52, E52, A52, st52⟩ := newP X40 hx hZ (hw _ (List.mem_of_getElem? (i := 3) rfl)) e40 (g := (mkF m 82 #[.val (.int p1), .val (.int p2), .val (.long q3), .second, .val (.long q4), .second, .val (.int p5), .val (.int p6), .val (.int ii), .val (.long ss), .second, .val (.ref b1), .unset, .unset, .unset, .unset, .unset, .unset, .unset, .unset] [(.int (2 : Int32)), (.ref b40), (.ref b40)])) rfl (hb hby at_82) rfl (by decide) (cap := 2) (by decide) (by decide) (by decide) (by decide)
      obtain ⟨b52, g52⟩ : ∃ z, z = h40.size := ⟨_, rfl⟩
      rw [← g52] at A52 st52
      have ne53 : b1 ≠ b52 := Nat.ne_of_lt (Nat.lt_of_lt_of_le f45.lt (Nat.le_of_eq g52.symm))
      have ne54 : b40 ≠ b52 := Nat.ne_of_lt (Nat.lt_of_lt_of_le A40.lt (Nat.le_of_eq g52.symm))
      have ne55 : b7 ≠ b52 := Nat.ne_of_lt (Nat.lt_of_lt_of_le f46.lt (Nat.le_of_eq g52.symm))
      have g56 : n0 ≤ b52 := Nat.le_trans z49 (Nat.le_of_eq g52.symm)
      have f57 := f44.ext E52
      have f58 := f45.ext E52
      have f59 := f46.ext E52
      have f60 := f47.ext E52
      have f61 := f48.ext E52
      have f62 := A40.ext E52
      have f63 := F50.ext E52
      have f64 := F51.ext E52
      have z65 := Nat.le_trans z49 E52.1
      have V66 : Arv Z h52 b52 k52 .char (2 : Int32) [(.int (0 : Int32)), (.int (0 : Int32))] (.int (0 : Int32)) := (Arv.new A52 (by decide)).pad (pad_rep [] (.int (0 : Int32)) 2)
      refine Go.via (S' := T52.setTop (mkF m 84 #[.val (.int p1), .val (.int p2), .val (.long q3), .second, .val (.long q4), .second, .val (.int p5), .val (.int p6), .val (.int ii), .val (.long ss), .second, .val (.ref b1), .unset, .unset, .unset, .unset, .unset, .unset, .unset, .unset] [(.ref b52), (.ref b40), (.ref b40)])) (fun _ k => st52 _ k) ?_
      refine Go.via (S' := T52.setTop (mkF m 85 #[.val (.int p1), .val (.int p2), .val (.long q3), .second, .val (.long q4), .second, .val (.int p5), .val (.int p6), .val (.int ii), .val (.long ss), .second, .val (.ref b1), .unset, .unset, .unset, .unset, .unset, .unset, .unset, .unset] [(.ref b52), (.ref b52), (.ref b40), (.ref b40)])) (fun _ k => XS.dup X52.here hx rfl (hb hby at_84) rfl rfl k) ?_
      refine Go.via (S' := T52.setTop (mkF m 86 #[.val (.int p1), .val (.int p2), .val (.long q3), .second, .val (.long q4), .second, .val (.int p5), .val (.int p6), .val (.int ii), .val (.long ss), .second, .val (.ref b1), .unset, .unset, .unset, .unset, .unset, .unset, .unset, .unset] [(.int (0 : Int32)), (.ref b52), (.ref b52), (.ref b40), (.ref b40)])) (fun _ k => XS.iconst X52.here hx rfl (hb hby at_85) k) ?_
      refine Go.via (S' := T52.setTop (mkF m 88 #[.val (.int p1), .val (.int p2), .val (.long q3), .second, .val (.long q4), .second, .val (.int p5), .val (.int p6), .val (.int ii), .val (.long ss), .second, .val (.ref b1), .unset, .unset, .unset, .unset, .unset, .unset, .unset, .unset] [(.int p5), (.int (0 : Int32)), (.ref b52), (.ref b52), (.ref b40), (.ref b40)])) (fun _ k => XS.iload X52.here hx rfl (hb hby at_86) rfl k) ?_
      refine Go.via (S' := T52.setTop (mkF m 90 #[.val (.int p1), .val (.int p2), .val (.long q3), .second, .val (.long q4), .second, .val (.int p5), .val (.int p6), .val (.int ii), .val (.long ss), .second, .val (.ref b1), .unset, .unset, .unset, .unset, .unset, .unset, .unset, .unset] [(.int (16 : Int32)), (.int p5), (.int (0 : Int32)), (.ref b52), (.ref b52), (.ref b40), (.ref b40)])) (fun _ k => XS.bipush X52.here hx rfl (hb hby at_88) k) ?_
      refine Go.via (S' := T52.setTop (mkF m 91 #[.val (.int p1), .val (.int p2), .val (.long q3), .second, .val (.long q4), .second, .val (.int p5), .val (.int p6), .val (.int ii), .val (.long ss), .second, .val (.ref b1), .unset, .unset, .unset, .unset, .unset, .unset, .unset, .unset] [(.int ((p5.toUInt32 >>> ((16 : Int32) &&& 31).toUInt32).toInt32)), (.int (0 : Int32)), (.ref b52), (.ref b52), (.ref b40), (.ref b40)])) (fun _ k => XS.iushr X52.here hx rfl (hb hby at_90) rfl k) ?_
      refine Go.via (S' := T52.setTop (mkF m 94 #[.val (.int p1), .val (.int p2), .val (.long q3), .second, .val (.long q4), .second, .val (.int p5), .val (.int p6), .val (.int ii), .val (.long ss), .second, .val (.ref b1), .unset, .unset, .unset, .unset, .unset, .unset, .unset, .unset] [(.int (255 : Int32)), (.int ((p5.toUInt32 >>> ((16 : Int32) &&& 31).toUInt32).toInt32)), (.int (0 : Int32)), (.ref b52), (.ref b52), (.ref b40), (.ref b40)])) (fun _ k => XS.sipush X52.here hx rfl (hb hby at_91) k) ?_
      refine Go.via (S' := T52.setTop (mkF m 95 #[.val (.int p1), .val (.int p2), .val (.long q3), .second, .val (.long q4), .second, .val (.int p5), .val (.int p6), .val (.int ii), .val (.long ss), .second, .val (.ref b1), .unset, .unset, .unset, .unset, .unset, .unset, .unset, .unset] [(.int (((p5.toUInt32 >>> ((16 : Int32) &&& 31).toUInt32).toInt32) &&& (255 : Int32))), (.int (0 : Int32)), (.ref b52), (.ref b52), (.ref b40), (.ref b40)])) (fun _ k => XS.iand X52.here hx rfl (hb hby at_94) rfl k) ?_
      refine Go.via (S' := T52.setTop (mkF m 96 #[.val (.int p1), .val (.int p2), .val (.long q3), .second, .val (.long q4), .second, .val (.int p5), .val (.int p6), .val (.int ii), .val (.long ss), .second, .val (.ref b1), .unset, .unset, .unset, .unset, .unset, .unset, .unset, .unset] [(.int ((((p5.toUInt32 >>> ((16 : Int32) &&& 31).toUInt32).toInt32) &&& (255 : Int32)).toUInt32.toUInt16.toUInt32.toInt32)), (.int (0 : Int32)), (.ref b52), (.ref b52), (.ref b40), (.ref b40)])) (fun _ k => XS.i2c X52.here hx rfl (hb hby at_95) rfl k) ?_
      obtain ⟨c67, Ar67, q67, S67, M67, H67, G67⟩ := id V66
      obtain ⟨T67, h67, X67, e67, W67, st67⟩ := stC X52 hx hZ e52 Ar67 (j := (0 : Int32)) (inb_of S67 ⟨by decide, by decide⟩) (g := (mkF m 96 #[.val (.int p1), .val (.int p2), .val (.long q3), .second, .val (.long q4), .second, .val (.int p5), .val (.int p6), .val (.int ii), .val (.long ss), .second, .val (.ref b1), .unset, .unset, .unset, .unset, .unset, .unset, .unset, .unset] [(.int ((((p5.toUInt32 >>> ((16 : Int32) &&& 31).toUInt32).toInt32) &&& (255 : Int32)).toUInt32.toUInt16.toUInt32.toInt32)), (.int (0 : Int32)), (.ref b52), (.ref b52), (.ref b40), (.ref b40)])) rfl rfl (hb hby at_96)
      have V68 : Arv Z h67 b52 k52 .char (2 : Int32) [(.int (nar .char ((((p5.toUInt32 >>> ((16 : Int32) &&& 31).toUInt32).toInt32) &&& (255 : Int32)).toUInt32.toUInt16.toUInt32.toInt32))), (.int (0 : Int32))] (.int (0 : Int32)) := Arv.set Ar67 q67 S67 M67 H67 G67 (fits_nar_char _) W67 0 rfl (Nat.le_of_ble_eq_true rfl)
      have N69 := Fr.snoc X67 N34 g56
      have f70 := f57.wr W67 g56
      have f71 := f58.wr W67
      have f72 := f59.other W67 ne55
      have f73 := f60.other W67 (Or.inl ne53)
      have f74 := f61.other W67 (Or.inl ne53)
      have f75 := f62.wr W67
      have f76 := f63.other W67 (Or.inl ne54)
      have f77 := f64.other W67 (Or.inl ne54)
      have z78 := Nat.le_trans z65 (Keep.of_wr W67).1
      refine Go.via (S' := T67.setTop (mkF m 97 #[.val (.int p1), .val (.int p2), .val (.long q3), .second, .val (.long q4), .second, .val (.int p5), .val (.int p6), .val (.int ii), .val (.long ss), .second, .val (.ref b1), .unset, .unset, .unset, .unset, .unset, .unset, .unset, .unset] [(.ref b52), (.ref b40), (.ref b40)])) (fun _ k => st67 _ k) ?_
      refine Go.via (S' := T67.setTop (mkF m 98 #[.val (.int p1), .val (.int p2), .val (.long q3), .second, .val (.long q4), .second, .val (.int p5), .val (.int p6), .val (.int ii), .val (.long ss), .second, .val (.ref b1), .unset, .unset, .unset, .unset, .unset, .unset, .unset, .unset] [(.ref b52), (.ref b52), (.ref b40), (.ref b40)])) (fun _ k => XS.dup X67.here hx rfl (hb hby at_97) rfl rfl k) ?_
      refine Go.via (S' := T67.setTop (mkF m 99 #[.val (.int p1), .val (.int p2), .val (.long q3), .second, .val (.long q4), .second, .val (.int p5), .val (.int p6), .val (.int ii), .val (.long ss), .second, .val (.ref b1), .unset, .unset, .unset, .unset, .unset, .unset, .unset, .unset] [(.int (1 : Int32)), (.ref b52), (.ref b52), (.ref b40), (.ref b40)])) (fun _ k => XS.iconst X67.here hx rfl (hb hby at_98) k) ?_
      refine Go.via (S' := T67.setTop (mkF m 101 #[.val (.int p1), .val (.int p2), .val (.long q3), .second, .val (.long q4), .second, .val (.int p5), .val (.int p6), .val (.int ii), .val (.long ss), .second, .val (.ref b1), .unset, .unset, .unset, .unset, .unset, .unset, .unset, .unset] [(.int p5), (.int (1 : Int32)), (.ref b52), (.ref b52), (.ref b40), (.ref b40)])) (fun _ k => XS.iload X67.here hx rfl (hb hby at_99) rfl k) ?_
      refine Go.via (S' := T67.setTop (mkF m 103 #[.val (.int p1), .val (.int p2), .val (.long q3), .second, .val (.long q4), .second, .val (.int p5), .val (.int p6), .val (.int ii), .val (.long ss), .second, .val (.ref b1), .unset, .unset, .unset, .unset, .unset, .unset, .unset, .unset] [(.int (24 : Int32)), (.int p5), (.int (1 : Int32)), (.ref b52), (.ref b52), (.ref b40), (.ref b40)])) (fun _ k => XS.bipush X67.here hx rfl (hb hby at_101) k) ?_
      refine Go.via (S' := T67.setTop (mkF m 104 #[.val (.int p1), .val (.int p2), .val (.long q3), .second, .val (.long q4), .second, .val (.int p5), .val (.int p6), .val (.int ii), .val (.long ss), .second, .val (.ref b1), .unset, .unset, .unset, .unset, .unset, .unset, .unset, .unset] [(.int ((p5.toUInt32 >>> ((24 : Int32) &&& 31).toUInt32).toInt32)), (.int (1 : Int32)), (.ref b52), (.ref b52), (.ref b40), (.ref b40)])) (fun _ k => XS.iushr X67.here hx rfl (hb hby at_103) rfl k) ?_
      refine Go.via (S' := T67.setTop (mkF m 107 #[.val (.int p1), .val (.int p2), .val (.long q3), .second, .val (.long q4), .second, .val (.int p5), .val (.int p6), .val (.int ii), .val (.long ss), .second, .val (.ref b1), .unset, .unset, .unset, .unset, .unset, .unset, .unset, .unset] [(.int (255 : Int32)), (.int ((p5.toUInt32 >>> ((24 : Int32) &&& 31).toUInt32).toInt32)), (.int (1 : Int32)), (.ref b52), (.ref b52), (.ref b40), (.ref b40)])) (fun _ k => XS.sipush X67.here hx rfl (hb hby at_104) k) ?_
      refine Go.via (S' := T67.setTop (mkF m 108 #[.val (.int p1), .val (.int p2), .val (.long q3), .second, .val (.long q4), .second, .val (.int p5), .val (.int p6), .val (.int ii), .val (.long ss), .second, .val (.ref b1), .unset, .unset, .unset, .unset, .unset, .unset, .unset, .unset] [(.int (((p5.toUInt32 >>> ((24 : Int32) &&& 31).toUInt32).toInt32) &&& (255 : Int32))), (.int (1 : Int32)), (.ref b52), (.ref b52), (.ref b40), (.ref b40)])) (fun _ k => XS.iand X67.here hx rfl (hb hby at_107) rfl k) ?_
      refine Go.via (S' := T67.setTop (mkF m 109 #[.val (.int p1), .val (.int p2), .val (.long q3), .second, .val (.long q4), .second, .val (.int p5), .val (.int p6), .val (.int ii), .val (.long ss), .second, .val (.ref b1), .unset, .unset, .unset, .unset, .unset, .unset, .unset, .unset] [(.int ((((p5.toUInt32 >>> ((24 : Int32) &&& 31).toUInt32).toInt32) &&& (255 : Int32)).toUInt32.toUInt16.toUInt32.toInt32)), (.int (1 : Int32)), (.ref b52), (.ref b52), (.ref b40), (.ref b40)])) (fun _ k => XS.i2c X67.here hx rfl (hb hby at_108) rfl k) ?_
      obtain ⟨c79, Ar79, q79, S79, M79, H79, G79⟩ := id V68
      obtain ⟨T79, h79, X79, e79, W79, st79⟩ := stC X67 hx hZ e67 Ar79 (j := (1 : Int32)) (inb_of S79 ⟨by decide, by decide⟩) (g := (mkF m 109 #[.val (.int p1), .val (.int p2), .val (.long q3), .second, .val (.long q4), .second, .val (.int p5), .val (.int p6), .val (.int ii), .val (.long ss), .second, .val (.ref b1), .unset, .unset, .unset, .unset, .unset, .unset, .unset, .unset] [(.int ((((p5.toUInt32 >>> ((24 : Int32) &&& 31).toUInt32).toInt32) &&& (255 : Int32)).toUInt32.toUInt16.toUInt32.toInt32)), (.int (1 : Int32)), (.ref b52), (.ref b52), (.ref b40), (.ref b40)])) rfl rfl (hb hby at_109)
      have V80 : Arv Z h79 b52 k52 .char (2 : Int32) [(.int (nar .char ((((p5.toUInt32 >>> ((16 : Int32) &&& 31).toUInt32).toInt32) &&& (255 : Int32)).toUInt32.toUInt16.toUInt32.toInt32))), (.int (nar .char ((((p5.toUInt32 >>> ((24 : Int32) &&& 31).toUInt32).toInt32) &&& (255 : Int32)).toUInt32.toUInt16.toUInt32.toInt32)))] (.int (0 : Int32)) := Arv.set Ar79 q79 S79 M79 H79 G79 (fits_nar_char _) W79 1 rfl (Nat.le_of_ble_eq_true rfl)
      have N81 := Fr.snoc X79 N69 g56
      have f82 := f70.wr W79 g56
      have f83 := f71.wr W79
      have f84 := f72.other W79 ne55
      have f85 := f73.other W79 (Or.inl ne53)
      have f86 := f74.other W79 (Or.inl ne53)
      have f87 := f75.wr W79
      have f88 := f76.other W79 (Or.inl ne54)
      have f89 := f77.other W79 (Or.inl ne54)
      have z90 := Nat.le_trans z78 (Keep.of_wr W79).1
      refine Go.via (S' := T79.setTop (mkF m 110 #[.val (.int p1), .val (.int p2), .val (.long q3), .second, .val (.long q4), .second, .val (.int p5), .val (.int p6), .val (.int ii), .val (.long ss), .second, .val (.ref b1), .unset, .unset, .unset, .unset, .unset, .unset, .unset, .unset] [(.ref b52), (.ref b40), (.ref b40)])) (fun _ k => st79 _ k) ?_
      have hp91 : ∀ c ∈ ([(nar .char ((((p5.toUInt32 >>> ((16 : Int32) &&& 31).toUInt32).toInt32) &&& (255 : Int32)).toUInt32.toUInt16.toUInt32.toInt32)), (nar .char ((((p5.toUInt32 >>> ((24 : Int32) &&& 31).toUInt32).toInt32) &&& (255 : Int32)).toUInt32.toUInt16.toUInt32.toInt32))] : List Int32), ¬ c < 0 ∧ ¬ (255 : Int32) < c := by
        intro c hc
        simp only [List.mem_cons, List.not_mem_nil, or_false] at hc
        rcases hc with rfl | rfl
        · exact and255_chars _
        · exact and255_chars _
      obtain ⟨_, _, ⟨T92, L92, k92, n92⟩, -, X92, ⟨Lc92, hQ92, l92, y92, z92⟩, st92⟩ := X79.specialBack hx (y := (⟨"java/lang/String", "<init>", "([C)V"⟩ : MethodName)) rfl hown (mvT hZ (hw _ (List.mem_of_getElem? (i := 4) rfl))) (mvT hZ (hw _ (List.mem_of_getElem? (i := 5) rfl))) (mvT hZ (hw _ (List.mem_of_getElem? (i := 6) rfl))) (by decide) (StrChars.Road.backV (W := 1) hZ hws (kI := 4) (hw _ (List.mem_of_getElem? (i := 1) rfl)) (cs := ([(nar .char ((((p5.toUInt32 >>> ((16 : Int32) &&& 31).toUInt32).toInt32) &&& (255 : Int32)).toUInt32.toUInt16.toUInt32.toInt32)), (nar .char ((((p5.toUInt32 >>> ((24 : Int32) &&& 31).toUInt32).toInt32) &&& (255 : Int32)).toUInt32.toUInt16.toUInt32.toInt32))] : List Int32)) (bs := (([(nar .char ((((p5.toUInt32 >>> ((16 : Int32) &&& 31).toUInt32).toInt32) &&& (255 : Int32)).toUInt32.toUInt16.toUInt32.toInt32)), (nar .char ((((p5.toUInt32 >>> ((24 : Int32) &&& 31).toUInt32).toInt32) &&& (255 : Int32)).toUInt32.toUInt16.toUInt32.toInt32))] : List Int32)).map (fun c => c.toInt8.toInt32)) (n := 2) g43 z90 f87 f89 f88 V80 (O2.ext f82.2) P5 rfl rfl (by decide) (by decide) hp91 rfl (by decide) (by decide)) (g := (mkF m 110 #[.val (.int p1), .val (.int p2), .val (.long q3), .second, .val (.long q4), .second, .val (.int p5), .val (.int p6), .val (.int ii), .val (.long ss), .second, .val (.ref b1), .unset, .unset, .unset, .unset, .unset, .unset, .unset, .unset] [(.ref b52), (.ref b40), (.ref b40)])) rfl (by rw [hml]; rfl) (Steps.refl _) (a := b40) (argsL := [(.ref b52)]) (rest := [(.ref b40)]) (lenOf pd_1 rfl) rfl (by show 2 * 0 + _ ≤ _; exact Nat.le_of_eq rfl) (hb hby at_110) (fun _ _ => ⟨rfl, e79, (by decide : 5 + 1 ≤ _), (by decide : 14 + 2 ≤ _)⟩)
      dsimp only [Pt.U, Pt.locs, Pt.cells, Pt.slots] at X92 l92 y92 z92 st92 hQ92
      subst l92 y92 z92
      obtain ⟨rfl, N92q, K92, Ee92, Fc92, t92, kb92, u192, u292, u392, Fv92, Va92⟩ := hQ92
      have N93 := Fr.app N81 N92q
      have f94 := f82.keep K92 (allS g43 all0)
      have f95 := f83.keep K92
      have f96 := f84.keep K92 (ninS ne42 nin0)
      have f97 := f85.keep K92 (ninS ne41 nin0)
      have f98 := f86.keep K92 (ninS ne41 nin0)
      have f99 := f87.keep K92
      have f100 := V80.keep K92 (ninS (Ne.symm ne54) nin0)
      have z101 := Nat.le_trans z90 K92.1
      refine Go.via (S' := T92.setTop (mkF m 113 #[.val (.int p1), .val (.int p2), .val (.long q3), .second, .val (.long q4), .second, .val (.int p5), .val (.int p6), .val (.int ii), .val (.long ss), .second, .val (.ref b1), .unset, .unset, .unset, .unset, .unset, .unset, .unset, .unset] [(.ref b40)])) (fun _ k => st92.trans k) ?_
      refine Go.via (S' := T92.setTop (mkF m 115 #[.val (.int p1), .val (.int p2), .val (.long q3), .second, .val (.long q4), .second, .val (.int p5), .val (.int p6), .val (.int ii), .val (.long ss), .second, .val (.ref b1), .val (.ref b40), .unset, .unset, .unset, .unset, .unset, .unset, .unset] [])) (fun _ k => XS.astore X92.here hx rfl (hb hby at_113) rfl rfl (l' := #[.val (.int p1), .val (.int p2), .val (.long q3), .second, .val (.long q4), .second, .val (.int p5), .val (.int p6), .val (.int ii), .val (.long ss), .second, .val (.ref b1), .val (.ref b40), .unset, .unset, .unset, .unset, .unset, .unset, .unset]) rfl k) ?_
      exact J115 T92 T92.heap _ b40 (X92.more (by decide) (by decide)) rfl N93 z101 f94
    · refine Go.via (S' := T33.setTop (mkF m 72 #[.val (.int p1), .val (.int p2), .val (.long q3), .second, .val (.long q4), .second, .val (.int p5), .val (.int p6), .val (.int ii), .val (.long ss), .second, .val (.ref b1), .unset, .unset, .unset, .unset, .unset, .unset, .unset, .unset] [])) (fun _ k => XS.ifNo X33.here hx rfl (hb hby at_69) rfl ((if0 _ _).trans (feq hc69).1) k) ?_
      refine Go.via (S' := T33.setTop (mkF m 74 #[.val (.int p1), .val (.int p2), .val (.long q3), .second, .val (.long q4), .second, .val (.int p5), .val (.int p6), .val (.int ii), .val (.long ss), .second, .val (.ref b1), .unset, .unset, .unset, .unset, .unset, .unset, .unset, .unset] [(.ref b1)])) (fun _ k => XS.aload X33.here hx rfl (hb hby at_72) rfl rfl k) ?_
      refine Go.via (S' := T33.setTop (mkF m 113 #[.val (.int p1), .val (.int p2), .val (.long q3), .second, .val (.long q4), .second, .val (.int p5), .val (.int p6), .val (.int ii), .val (.long ss), .second, .val (.ref b1), .unset, .unset, .unset, .unset, .unset, .unset, .unset, .unset] [(.ref b1)])) (fun _ k => XS.goto X33.here hx rfl (pc0 := 74) (pc' := 113) rfl (hb hby at_74) (by decide) (by decide) k) ?_
      refine Go.via (S' := T33.setTop (mkF m 115 #[.val (.int p1), .val (.int p2), .val (.long q3), .second, .val (.long q4), .second, .val (.int p5), .val (.int p6), .val (.int ii), .val (.long ss), .second, .val (.ref b1), .val (.ref b1), .unset, .unset, .unset, .unset, .unset, .unset, .unset] [])) (fun _ k => XS.astore X33.here hx rfl (hb hby at_113) rfl rfl (l' := #[.val (.int p1), .val (.int p2), .val (.long q3), .second, .val (.long q4), .second, .val (.int p5), .val (.int p6), .val (.int ii), .val (.long ss), .second, .val (.ref b1), .val (.ref b1), .unset, .unset, .unset, .unset, .unset, .unset, .unset]) rfl k) ?_
      exact J115 T33 T33.heap _ b1 (X33.more (by decide) (by decide)) rfl N34 z38 f35
  intro T39 h39 lo39 nm2 X39 e39 N39 z39 fk39_0
  obtain ⟨T102, h102, X102, e102, E102, A102, D102, -, st102⟩ := newO X39 hx hZ hown (hw _ (List.mem_of_getElem? (i := 30) rfl)) (hw _ (List.mem_of_getElem? (i := 31) rfl)) (hw _ (List.mem_of_getElem? (i := 32) rfl)) e39 (g := (mkF m 115 #[.val (.int p1), .val (.int p2), .val (.long q3), .second, .val (.long q4), .second, .val (.int p5), .val (.int p6), .val (.int ii), .val (.long ss), .second, .val (.ref b1), .val (.ref nm2), .unset, .unset, .unset, .unset, .unset, .unset, .unset] [])) rfl (hb hby at_115) (by decide) (by decide)
  obtain ⟨b102, g102⟩ : ∃ z, z = h39.size := ⟨_, rfl⟩
  rw [← g102] at A102 D102 st102
  have g103 : n0 ≤ b102 := Nat.le_trans z39 (Nat.le_of_eq g102.symm)
  have f104 := fk39_0.ext E102
  have z105 := Nat.le_trans z39 E102.1
  have F106 : Fld Z h102 b102 "com/example/covenant/covenant/lang/Variable" "name" "Ljava/lang/String;" .null := D102 (Or.inr (hw _ (List.mem_of_getElem? (i := 41) rfl))) (ty := (.object "java/lang/String")) (by decide)
  have F107 : Fld Z h102 b102 "com/example/covenant/covenant/lang/Variable" "index" "I" (.int (0 : Int32)) := D102 (Or.inr (hw _ (List.mem_of_getElem? (i := 43) rfl))) (ty := .int) (by decide)
  have F108 : Fld Z h102 b102 "com/example/covenant/covenant/lang/Variable" "scope" "J" (.long (0 : Int64)) := D102 (Or.inr (hw _ (List.mem_of_getElem? (i := 45) rfl))) (ty := .long) (by decide)
  refine Go.via (S' := T102.setTop (mkF m 118 #[.val (.int p1), .val (.int p2), .val (.long q3), .second, .val (.long q4), .second, .val (.int p5), .val (.int p6), .val (.int ii), .val (.long ss), .second, .val (.ref b1), .val (.ref nm2), .unset, .unset, .unset, .unset, .unset, .unset, .unset] [(.ref b102)])) (fun _ k => st102 _ k) ?_
  refine Go.via (S' := T102.setTop (mkF m 119 #[.val (.int p1), .val (.int p2), .val (.long q3), .second, .val (.long q4), .second, .val (.int p5), .val (.int p6), .val (.int ii), .val (.long ss), .second, .val (.ref b1), .val (.ref nm2), .unset, .unset, .unset, .unset, .unset, .unset, .unset] [(.ref b102), (.ref b102)])) (fun _ k => XS.dup X102.here hx rfl (hb hby at_118) rfl rfl k) ?_
  refine Go.via (S' := T102.setTop (mkF m 121 #[.val (.int p1), .val (.int p2), .val (.long q3), .second, .val (.long q4), .second, .val (.int p5), .val (.int p6), .val (.int ii), .val (.long ss), .second, .val (.ref b1), .val (.ref nm2), .unset, .unset, .unset, .unset, .unset, .unset, .unset] [(.ref b1), (.ref b102), (.ref b102)])) (fun _ k => XS.aload X102.here hx rfl (hb hby at_119) rfl rfl k) ?_
  refine Go.via (S' := T102.setTop (mkF m 122 #[.val (.int p1), .val (.int p2), .val (.long q3), .second, .val (.long q4), .second, .val (.int p5), .val (.int p6), .val (.int ii), .val (.long ss), .second, .val (.ref b1), .val (.ref nm2), .unset, .unset, .unset, .unset, .unset, .unset, .unset] [(.int p1), (.ref b1), (.ref b102), (.ref b102)])) (fun _ k => XS.iloadN X102.here hx rfl (hb hby at_121) rfl k) ?_
  obtain ⟨_, _, ⟨T109, L109, k109, n109⟩, -, X109, ⟨Lc109, hQ109, l109, y109, z109⟩, st109⟩ := X102.specialBack hx (y := (⟨"com/example/covenant/covenant/lang/Variable", "<init>", "(Ljava/lang/String;I)V"⟩ : MethodName)) rfl hown (mvT hZ (hw _ (List.mem_of_getElem? (i := 33) rfl))) (mvT hZ (hw _ (List.mem_of_getElem? (i := 34) rfl))) (mvT hZ (hw _ (List.mem_of_getElem? (i := 35) rfl))) (by decide) (backOf (W := 1) (rm7 l Z a0 hw [] b102 b1 p1 h102 n0 z105 A102 F106 F107 F108 g103) hZ (hw _ (List.mem_of_getElem? (i := 35) rfl)) (hw _ (List.mem_of_getElem? (i := 32) rfl)) (by decide) (by decide)) (g := (mkF m 122 #[.val (.int p1), .val (.int p2), .val (.long q3), .second, .val (.long q4), .second, .val (.int p5), .val (.int p6), .val (.int ii), .val (.long ss), .second, .val (.ref b1), .val (.ref nm2), .unset, .unset, .unset, .unset, .unset, .unset, .unset] [(.int p1), (.ref b1), (.ref b102), (.ref b102)])) rfl (by rw [hml]; rfl) (Steps.refl _) (a := b102) (argsL := [(.ref b1), (.int p1)]) (rest := [(.ref b102)]) (lenOf pd_2 rfl) rfl (by show 2 * 0 + _ ≤ _; exact Nat.le_of_eq rfl) (hb hby at_122) (fun _ _ => ⟨rfl, e102, (by decide : 7 + 0 ≤ _), (by decide : 19 + 0 ≤ _)⟩)
  dsimp only [Pt.U, Pt.locs, Pt.cells, Pt.slots] at X109 l109 y109 z109 st109 hQ109
  subst l109 y109 z109
  obtain ⟨rfl, N109q, K109, Fn109, Fi109, Fs109⟩ := hQ109
  have N110 := Fr.app N39 N109q
  have f111 := f104.keep K109 (allS g103 all0)
  have f112 := A102.keep K109
  have z113 := Nat.le_trans z105 K109.1
  refine Go.via (S' := T109.setTop (mkF m 125 #[.val (.int p1), .val (.int p2), .val (.long q3), .second, .val (.long q4), .second, .val (.int p5), .val (.int p6), .val (.int ii), .val (.long ss), .second, .val (.ref b1), .val (.ref nm2), .unset, .unset, .unset, .unset, .unset, .unset, .unset] [(.ref b102)])) (fun _ k => st109.trans k) ?_
  refine Go.via (S' := T109.setTop (mkF m 127 #[.val (.int p1), .val (.int p2), .val (.long q3), .second, .val (.long q4), .second, .val (.int p5), .val (.int p6), .val (.int ii), .val (.long ss), .second, .val (.ref b1), .val (.ref nm2), .val (.ref b102), .unset, .unset, .unset, .unset, .unset, .unset] [])) (fun _ k => XS.astore X109.here hx rfl (hb hby at_125) rfl rfl (l' := #[.val (.int p1), .val (.int p2), .val (.long q3), .second, .val (.long q4), .second, .val (.int p5), .val (.int p6), .val (.int ii), .val (.long ss), .second, .val (.ref b1), .val (.ref nm2), .val (.ref b102), .unset, .unset, .unset, .unset, .unset, .unset]) rfl k) ?_
  suffices J141 : ∀ (T114 : State) (h114 : Heap) (lo114 : List Loc) (va : Addr) (X114 : Stand p l e room_1 s m #[(.int p1), (.int p2), (.long q3), (.long q4), (.int p5), (.int p6)] below meth c T114 lo114 8 23) (e114 : T114.heap = h114) (N114 : Fr n0 lo114) (z114 : n0 ≤ h114.size) (fk114_0 : Old Z n0 h114) (fn114_0 : Exa Z h114 va "com/example/covenant/covenant/lang/Variable") (fn114_1 : Fld Z h114 va "com/example/covenant/covenant/lang/Variable" "index" "I" (.int p1)) (fn114_2 : Fld Z h114 va "com/example/covenant/covenant/lang/Variable" "scope" "J" (.long q3)), Go p e below s (Q0 Z p1 p2 q3 q4 p5 p6 G1 h0 n0) room_1.cells room_1.slots (T114.setTop (mkF m 141 #[.val (.int p1), .val (.int p2), .val (.long q3), .second, .val (.long q4), .second, .val (.int p5), .val (.int p6), .val (.int ii), .val (.long ss), .second, .val (.ref b1), .val (.ref nm2), .val (.ref va), .unset, .unset, .unset, .unset, .unset, .unset] [])) by
    refine Go.via (S' := T109.setTop (mkF m 128 #[.val (.int p1), .val (.int p2), .val (.long q3), .second, .val (.long q4), .second, .val (.int p5), .val (.int p6), .val (.int ii), .val (.long ss), .second, .val (.ref b1), .val (.ref nm2), .val (.ref b102), .unset, .unset, .unset, .unset, .unset, .unset] [(.long q3)])) (fun _ k => XS.lloadN X109.here hx rfl (hb hby at_127) rfl k) ?_
    refine Go.via (S' := T109.setTop (mkF m 129 #[.val (.int p1), .val (.int p2), .val (.long q3), .second, .val (.long q4), .second, .val (.int p5), .val (.int p6), .val (.int ii), .val (.long ss), .second, .val (.ref b1), .val (.ref nm2), .val (.ref b102), .unset, .unset, .unset, .unset, .unset, .unset] [(.long (0 : Int64)), (.long q3)])) (fun _ k => XS.lconst X109.here hx rfl (hb hby at_128) k) ?_
    refine Go.via (S' := T109.setTop (mkF m 130 #[.val (.int p1), .val (.int p2), .val (.long q3), .second, .val (.long q4), .second, .val (.int p5), .val (.int p6), .val (.int ii), .val (.long ss), .second, .val (.ref b1), .val (.ref nm2), .val (.ref b102), .unset, .unset, .unset, .unset, .unset, .unset] [(.int (lcmpW q3 (0 : Int64)))])) (fun _ k => XS.lcmp X109.here hx rfl (hb hby at_129) rfl k) ?_
    rcases Decidable.em (q3 = (0 : Int64)) with hc130 | hc130
    · refine Go.via (S' := T109.setTop (mkF m 141 #[.val (.int p1), .val (.int p2), .val (.long q3), .second, .val (.long q4), .second, .val (.int p5), .val (.int p6), .val (.int ii), .val (.long ss), .second, .val (.ref b1), .val (.ref nm2), .val (.ref b102), .unset, .unset, .unset, .unset, .unset, .unset] [])) (fun _ k => XS.ifYes X109.here hx rfl (pc0 := 130) (pc' := 141) rfl (hb hby at_130) rfl ((if0 _ _).trans (teq (own_lc5 hc130)).1) (by decide) (by decide) k) ?_
      exact J141 T109 T109.heap _ b102 (X109.more (by decide) (by decide)) rfl N110 z113 f111 f112 Fi109 (by rw [hc130]; exact Fs109)
    · refine Go.via (S' := T109.setTop (mkF m 133 #[.val (.int p1), .val (.int p2), .val (.long q3), .second, .val (.long q4), .second, .val (.int p5), .val (.int p6), .val (.int ii), .val (.long ss), .second, .val (.ref b1), .val (.ref nm2), .val (.ref b102), .unset, .unset, .unset, .unset, .unset, .unset] [])) (fun _ k => XS.ifNo X109.here hx rfl (hb hby at_130) rfl ((if0 _ _).trans (feq (own_lc6 hc130)).1) k) ?_
      refine Go.via (S' := T109.setTop (mkF m 135 #[.val (.int p1), .val (.int p2), .val (.long q3), .second, .val (.long q4), .second, .val (.int p5), .val (.int p6), .val (.int ii), .val (.long ss), .second, .val (.ref b1), .val (.ref nm2), .val (.ref b102), .unset, .unset, .unset, .unset, .unset, .unset] [(.ref b102)])) (fun _ k => XS.aload X109.here hx rfl (hb hby at_133) rfl rfl k) ?_
      refine Go.via (S' := T109.setTop (mkF m 136 #[.val (.int p1), .val (.int p2), .val (.long q3), .second, .val (.long q4), .second, .val (.int p5), .val (.int p6), .val (.int ii), .val (.long ss), .second, .val (.ref b1), .val (.ref nm2), .val (.ref b102), .unset, .unset, .unset, .unset, .unset, .unset] [(.long q3), (.ref b102)])) (fun _ k => XS.lloadN X109.here hx rfl (hb hby at_135) rfl k) ?_
      obtain ⟨cq115, kq115, q115a, q115b, q115c⟩ := isOf hZ rfl f112
      obtain ⟨_, _, ⟨T115, L115, k115, n115⟩, -, X115, ⟨Lc115, hQ115, l115, y115, z115⟩, st115⟩ := X109.virtualBack hx (y := (⟨"com/example/covenant/covenant/lang/Variable", "inScope", "(J)Lcom/example/covenant/covenant/lang/Variable;"⟩ : MethodName)) (z := (⟨"com/example/covenant/covenant/lang/Variable", "inScope", "(J)Lcom/example/covenant/covenant/lang/Variable;"⟩ : MethodName)) hown (mvT hZ (hw _ (List.mem_of_getElem? (i := 46) rfl))) (mvT hZ (hw _ (List.mem_of_getElem? (i := 47) rfl))) (notFace_of_selects (args := #[]) (mvT hZ (hw _ (List.mem_of_getElem? (i := 49) rfl)))) (mvT hZ (hw _ (List.mem_of_getElem? (i := 49) rfl))) (mvT hZ (hw _ (List.mem_of_getElem? (i := 48) rfl))) (by decide) (backOf (W := 0) (rm9 l Z a0 hw [] b102 q3 b1 p1 T109.heap n0 z113 Fn109 Fi109) hZ (hw _ (List.mem_of_getElem? (i := 50) rfl)) (hw _ (List.mem_of_getElem? (i := 32) rfl)) (by decide) (by decide)) q115a q115c (g := (mkF m 136 #[.val (.int p1), .val (.int p2), .val (.long q3), .second, .val (.long q4), .second, .val (.int p5), .val (.int p6), .val (.int ii), .val (.long ss), .second, .val (.ref b1), .val (.ref nm2), .val (.ref b102), .unset, .unset, .unset, .unset, .unset, .unset] [(.long q3), (.ref b102)])) rfl (by rw [hml]; rfl) (Steps.refl _) (argsL := [(.long q3)]) (rest := []) (lenOf pd_3 rfl) rfl (by show 2 * 0 + _ ≤ _; exact Nat.le_of_eq rfl) (hb hby at_136) (fun _ _ => ⟨rfl, rfl, (by decide : 7 + 1 ≤ _), (by decide : 19 + 3 ≤ _)⟩)
      dsimp only [Pt.U, Pt.locs, Pt.cells, Pt.slots] at X115 l115 y115 z115 st115 hQ115
      subst l115 y115 z115
      obtain ⟨r115, rfl, N115q, K115, Er115, Fi115, Fs115⟩ := hQ115
      have N116 := Fr.app N110 N115q
      have f117 := f111.keep K115 all0
      have f118 := f112.keep K115
      have f119 := Fn109.keep K115 nin0
      have f120 := Fi109.keep K115 nin0
      have f121 := Fs109.keep K115 nin0
      have z122 := Nat.le_trans z113 K115.1
      refine Go.via (S' := T115.setTop (mkF m 139 #[.val (.int p1), .val (.int p2), .val (.long q3), .second, .val (.long q4), .second, .val (.int p5), .val (.int p6), .val (.int ii), .val (.long ss), .second, .val (.ref b1), .val (.ref nm2), .val (.ref b102), .unset, .unset, .unset, .unset, .unset, .unset] [(.ref r115)])) (fun _ k => st115.trans k) ?_
      refine Go.via (S' := T115.setTop (mkF m 141 #[.val (.int p1), .val (.int p2), .val (.long q3), .second, .val (.long q4), .second, .val (.int p5), .val (.int p6), .val (.int ii), .val (.long ss), .second, .val (.ref b1), .val (.ref nm2), .val (.ref r115), .unset, .unset, .unset, .unset, .unset, .unset] [])) (fun _ k => XS.astore X115.here hx rfl (hb hby at_139) rfl rfl (l' := #[.val (.int p1), .val (.int p2), .val (.long q3), .second, .val (.long q4), .second, .val (.int p5), .val (.int p6), .val (.int ii), .val (.long ss), .second, .val (.ref b1), .val (.ref nm2), .val (.ref r115), .unset, .unset, .unset, .unset, .unset, .unset]) rfl k) ?_
      exact J141 T115 T115.heap _ r115 (X115.more (by decide) (by decide)) rfl N116 z122 f117 Er115 Fi115 Fs115
  intro T114 h114 lo114 va X114 e114 N114 z114 fk114_0 fn114_0 fn114_1 fn114_2
  obtain ⟨T123, h123, X123, e123, E123, A123, D123, -, st123⟩ := newO X114 hx hZ hown (hw _ (List.mem_of_getElem? (i := 30) rfl)) (hw _ (List.mem_of_getElem? (i := 31) rfl)) (hw _ (List.mem_of_getElem? (i := 32) rfl)) e114 (g := (mkF m 141 #[.val (.int p1), .val (.int p2), .val (.long q3), .second, .val (.long q4), .second, .val (.int p5), .val (.int p6), .val (.int ii), .val (.long ss), .second, .val (.ref b1), .val (.ref nm2), .val (.ref va), .unset, .unset, .unset, .unset, .unset, .unset] [])) rfl (hb hby at_141) (by decide) (by decide)
  obtain ⟨b123, g123⟩ : ∃ z, z = h114.size := ⟨_, rfl⟩
  rw [← g123] at A123 D123 st123
  have ne124 : va ≠ b123 := Nat.ne_of_lt (Nat.lt_of_lt_of_le fn114_0.lt (Nat.le_of_eq g123.symm))
  have g125 : n0 ≤ b123 := Nat.le_trans z114 (Nat.le_of_eq g123.symm)
  have f126 := fk114_0.ext E123
  have f127 := fn114_0.ext E123
  have f128 := fn114_1.ext E123
  have f129 := fn114_2.ext E123
  have z130 := Nat.le_trans z114 E123.1
  have F131 : Fld Z h123 b123 "com/example/covenant/covenant/lang/Variable" "name" "Ljava/lang/String;" .null := D123 (Or.inr (hw _ (List.mem_of_getElem? (i := 41) rfl))) (ty := (.object "java/lang/String")) (by decide)
  have F132 : Fld Z h123 b123 "com/example/covenant/covenant/lang/Variable" "index" "I" (.int (0 : Int32)) := D123 (Or.inr (hw _ (List.mem_of_getElem? (i := 43) rfl))) (ty := .int) (by decide)
  have F133 : Fld Z h123 b123 "com/example/covenant/covenant/lang/Variable" "scope" "J" (.long (0 : Int64)) := D123 (Or.inr (hw _ (List.mem_of_getElem? (i := 45) rfl))) (ty := .long) (by decide)
  refine Go.via (S' := T123.setTop (mkF m 144 #[.val (.int p1), .val (.int p2), .val (.long q3), .second, .val (.long q4), .second, .val (.int p5), .val (.int p6), .val (.int ii), .val (.long ss), .second, .val (.ref b1), .val (.ref nm2), .val (.ref va), .unset, .unset, .unset, .unset, .unset, .unset] [(.ref b123)])) (fun _ k => st123 _ k) ?_
  refine Go.via (S' := T123.setTop (mkF m 145 #[.val (.int p1), .val (.int p2), .val (.long q3), .second, .val (.long q4), .second, .val (.int p5), .val (.int p6), .val (.int ii), .val (.long ss), .second, .val (.ref b1), .val (.ref nm2), .val (.ref va), .unset, .unset, .unset, .unset, .unset, .unset] [(.ref b123), (.ref b123)])) (fun _ k => XS.dup X123.here hx rfl (hb hby at_144) rfl rfl k) ?_
  refine Go.via (S' := T123.setTop (mkF m 147 #[.val (.int p1), .val (.int p2), .val (.long q3), .second, .val (.long q4), .second, .val (.int p5), .val (.int p6), .val (.int ii), .val (.long ss), .second, .val (.ref b1), .val (.ref nm2), .val (.ref va), .unset, .unset, .unset, .unset, .unset, .unset] [(.ref nm2), (.ref b123), (.ref b123)])) (fun _ k => XS.aload X123.here hx rfl (hb hby at_145) rfl rfl k) ?_
  refine Go.via (S' := T123.setTop (mkF m 149 #[.val (.int p1), .val (.int p2), .val (.long q3), .second, .val (.long q4), .second, .val (.int p5), .val (.int p6), .val (.int ii), .val (.long ss), .second, .val (.ref b1), .val (.ref nm2), .val (.ref va), .unset, .unset, .unset, .unset, .unset, .unset] [(.int ii), (.ref nm2), (.ref b123), (.ref b123)])) (fun _ k => XS.iload X123.here hx rfl (hb hby at_147) rfl k) ?_
  obtain ⟨_, _, ⟨T134, L134, k134, n134⟩, -, X134, ⟨Lc134, hQ134, l134, y134, z134⟩, st134⟩ := X123.specialBack hx (y := (⟨"com/example/covenant/covenant/lang/Variable", "<init>", "(Ljava/lang/String;I)V"⟩ : MethodName)) rfl hown (mvT hZ (hw _ (List.mem_of_getElem? (i := 33) rfl))) (mvT hZ (hw _ (List.mem_of_getElem? (i := 34) rfl))) (mvT hZ (hw _ (List.mem_of_getElem? (i := 35) rfl))) (by decide) (backOf (W := 1) (rm7 l Z a0 hw [] b123 nm2 ii h123 n0 z130 A123 F131 F132 F133 g125) hZ (hw _ (List.mem_of_getElem? (i := 35) rfl)) (hw _ (List.mem_of_getElem? (i := 32) rfl)) (by decide) (by decide)) (g := (mkF m 149 #[.val (.int p1), .val (.int p2), .val (.long q3), .second, .val (.long q4), .second, .val (.int p5), .val (.int p6), .val (.int ii), .val (.long ss), .second, .val (.ref b1), .val (.ref nm2), .val (.ref va), .unset, .unset, .unset, .unset, .unset, .unset] [(.int ii), (.ref nm2), (.ref b123), (.ref b123)])) rfl (by rw [hml]; rfl) (Steps.refl _) (a := b123) (argsL := [(.ref nm2), (.int ii)]) (rest := [(.ref b123)]) (lenOf pd_2 rfl) rfl (by show 2 * 0 + _ ≤ _; exact Nat.le_of_eq rfl) (hb hby at_149) (fun _ _ => ⟨rfl, e123, (by decide : 9 + 0 ≤ _), (by decide : 26 + 0 ≤ _)⟩)
  dsimp only [Pt.U, Pt.locs, Pt.cells, Pt.slots] at X134 l134 y134 z134 st134 hQ134
  subst l134 y134 z134
  obtain ⟨rfl, N134q, K134, Fn134, Fi134, Fs134⟩ := hQ134
  have N135 := Fr.app N114 N134q
  have f136 := f126.keep K134 (allS g125 all0)
  have f137 := f127.keep K134
  have f138 := f128.keep K134 (ninS ne124 nin0)
  have f139 := f129.keep K134 (ninS ne124 nin0)
  have f140 := A123.keep K134
  have z141 := Nat.le_trans z130 K134.1
  refine Go.via (S' := T134.setTop (mkF m 152 #[.val (.int p1), .val (.int p2), .val (.long q3), .second, .val (.long q4), .second, .val (.int p5), .val (.int p6), .val (.int ii), .val (.long ss), .second, .val (.ref b1), .val (.ref nm2), .val (.ref va), .unset, .unset, .unset, .unset, .unset, .unset] [(.ref b123)])) (fun _ k => st134.trans k) ?_
  refine Go.via (S' := T134.setTop (mkF m 154 #[.val (.int p1), .val (.int p2), .val (.long q3), .second, .val (.long q4), .second, .val (.int p5), .val (.int p6), .val (.int ii), .val (.long ss), .second, .val (.ref b1), .val (.ref nm2), .val (.ref va), .val (.ref b123), .unset, .unset, .unset, .unset, .unset] [])) (fun _ k => XS.astore X134.here hx rfl (hb hby at_152) rfl rfl (l' := #[.val (.int p1), .val (.int p2), .val (.long q3), .second, .val (.long q4), .second, .val (.int p5), .val (.int p6), .val (.int ii), .val (.long ss), .second, .val (.ref b1), .val (.ref nm2), .val (.ref va), .val (.ref b123), .unset, .unset, .unset, .unset, .unset]) rfl k) ?_
  suffices J170 : ∀ (T142 : State) (h142 : Heap) (lo142 : List Loc) (vb : Addr) (X142 : Stand p l e room_1 s m #[(.int p1), (.int p2), (.long q3), (.long q4), (.int p5), (.int p6)] below meth c T142 lo142 10 30) (e142 : T142.heap = h142) (N142 : Fr n0 lo142) (z142 : n0 ≤ h142.size) (fk142_0 : Old Z n0 h142) (fk142_1 : Exa Z h142 va "com/example/covenant/covenant/lang/Variable") (fk142_2 : Fld Z h142 va "com/example/covenant/covenant/lang/Variable" "index" "I" (.int p1)) (fk142_3 : Fld Z h142 va "com/example/covenant/covenant/lang/Variable" "scope" "J" (.long q3)) (fn142_0 : Exa Z h142 vb "com/example/covenant/covenant/lang/Variable") (fn142_1 : Fld Z h142 vb "com/example/covenant/covenant/lang/Variable" "index" "I" (.int ii)) (fn142_2 : Fld Z h142 vb "com/example/covenant/covenant/lang/Variable" "scope" "J" (.long ss)), Go p e below s (Q0 Z p1 p2 q3 q4 p5 p6 G1 h0 n0) room_1.cells room_1.slots (T142.setTop (mkF m 170 #[.val (.int p1), .val (.int p2), .val (.long q3), .second, .val (.long q4), .second, .val (.int p5), .val (.int p6), .val (.int ii), .val (.long ss), .second, .val (.ref b1), .val (.ref nm2), .val (.ref va), .val (.ref vb), .unset, .unset, .unset, .unset, .unset] [])) by
    refine Go.via (S' := T134.setTop (mkF m 156 #[.val (.int p1), .val (.int p2), .val (.long q3), .second, .val (.long q4), .second, .val (.int p5), .val (.int p6), .val (.int ii), .val (.long ss), .second, .val (.ref b1), .val (.ref nm2), .val (.ref va), .val (.ref b123), .unset, .unset, .unset, .unset, .unset] [(.long ss)])) (fun _ k => XS.lload X134.here hx rfl (hb hby at_154) rfl k) ?_
    refine Go.via (S' := T134.setTop (mkF m 157 #[.val (.int p1), .val (.int p2), .val (.long q3), .second, .val (.long q4), .second, .val (.int p5), .val (.int p6), .val (.int ii), .val (.long ss), .second, .val (.ref b1), .val (.ref nm2), .val (.ref va), .val (.ref b123), .unset, .unset, .unset, .unset, .unset] [(.long (0 : Int64)), (.long ss)])) (fun _ k => XS.lconst X134.here hx rfl (hb hby at_156) k) ?_
    refine Go.via (S' := T134.setTop (mkF m 158 #[.val (.int p1), .val (.int p2), .val (.long q3), .second, .val (.long q4), .second, .val (.int p5), .val (.int p6), .val (.int ii), .val (.long ss), .second, .val (.ref b1), .val (.ref nm2), .val (.ref va), .val (.ref b123), .unset, .unset, .unset, .unset, .unset] [(.int (lcmpW ss (0 : Int64)))])) (fun _ k => XS.lcmp X134.here hx rfl (hb hby at_157) rfl k) ?_
    rcases Decidable.em (ss = (0 : Int64)) with hc158 | hc158
    · refine Go.via (S' := T134.setTop (mkF m 170 #[.val (.int p1), .val (.int p2), .val (.long q3), .second, .val (.long q4), .second, .val (.int p5), .val (.int p6), .val (.int ii), .val (.long ss), .second, .val (.ref b1), .val (.ref nm2), .val (.ref va), .val (.ref b123), .unset, .unset, .unset, .unset, .unset] [])) (fun _ k => XS.ifYes X134.here hx rfl (pc0 := 158) (pc' := 170) rfl (hb hby at_158) rfl ((if0 _ _).trans (teq (own_lc5 hc158)).1) (by decide) (by decide) k) ?_
      exact J170 T134 T134.heap _ b123 (X134.more (by decide) (by decide)) rfl N135 z141 f136 f137 f138 f139 f140 Fi134 (by rw [hc158]; exact Fs134)
    · refine Go.via (S' := T134.setTop (mkF m 161 #[.val (.int p1), .val (.int p2), .val (.long q3), .second, .val (.long q4), .second, .val (.int p5), .val (.int p6), .val (.int ii), .val (.long ss), .second, .val (.ref b1), .val (.ref nm2), .val (.ref va), .val (.ref b123), .unset, .unset, .unset, .unset, .unset] [])) (fun _ k => XS.ifNo X134.here hx rfl (hb hby at_158) rfl ((if0 _ _).trans (feq (own_lc6 hc158)).1) k) ?_
      refine Go.via (S' := T134.setTop (mkF m 163 #[.val (.int p1), .val (.int p2), .val (.long q3), .second, .val (.long q4), .second, .val (.int p5), .val (.int p6), .val (.int ii), .val (.long ss), .second, .val (.ref b1), .val (.ref nm2), .val (.ref va), .val (.ref b123), .unset, .unset, .unset, .unset, .unset] [(.ref b123)])) (fun _ k => XS.aload X134.here hx rfl (hb hby at_161) rfl rfl k) ?_
      refine Go.via (S' := T134.setTop (mkF m 165 #[.val (.int p1), .val (.int p2), .val (.long q3), .second, .val (.long q4), .second, .val (.int p5), .val (.int p6), .val (.int ii), .val (.long ss), .second, .val (.ref b1), .val (.ref nm2), .val (.ref va), .val (.ref b123), .unset, .unset, .unset, .unset, .unset] [(.long ss), (.ref b123)])) (fun _ k => XS.lload X134.here hx rfl (hb hby at_163) rfl k) ?_
      obtain ⟨cq143, kq143, q143a, q143b, q143c⟩ := isOf hZ rfl f140
      obtain ⟨_, _, ⟨T143, L143, k143, n143⟩, -, X143, ⟨Lc143, hQ143, l143, y143, z143⟩, st143⟩ := X134.virtualBack hx (y := (⟨"com/example/covenant/covenant/lang/Variable", "inScope", "(J)Lcom/example/covenant/covenant/lang/Variable;"⟩ : MethodName)) (z := (⟨"com/example/covenant/covenant/lang/Variable", "inScope", "(J)Lcom/example/covenant/covenant/lang/Variable;"⟩ : MethodName)) hown (mvT hZ (hw _ (List.mem_of_getElem? (i := 46) rfl))) (mvT hZ (hw _ (List.mem_of_getElem? (i := 47) rfl))) (notFace_of_selects (args := #[]) (mvT hZ (hw _ (List.mem_of_getElem? (i := 49) rfl)))) (mvT hZ (hw _ (List.mem_of_getElem? (i := 49) rfl))) (mvT hZ (hw _ (List.mem_of_getElem? (i := 48) rfl))) (by decide) (backOf (W := 0) (rm9 l Z a0 hw [] b123 ss nm2 ii T134.heap n0 z141 Fn134 Fi134) hZ (hw _ (List.mem_of_getElem? (i := 50) rfl)) (hw _ (List.mem_of_getElem? (i := 32) rfl)) (by decide) (by decide)) q143a q143c (g := (mkF m 165 #[.val (.int p1), .val (.int p2), .val (.long q3), .second, .val (.long q4), .second, .val (.int p5), .val (.int p6), .val (.int ii), .val (.long ss), .second, .val (.ref b1), .val (.ref nm2), .val (.ref va), .val (.ref b123), .unset, .unset, .unset, .unset, .unset] [(.long ss), (.ref b123)])) rfl (by rw [hml]; rfl) (Steps.refl _) (argsL := [(.long ss)]) (rest := []) (lenOf pd_3 rfl) rfl (by show 2 * 0 + _ ≤ _; exact Nat.le_of_eq rfl) (hb hby at_165) (fun _ _ => ⟨rfl, rfl, (by decide : 9 + 1 ≤ _), (by decide : 26 + 3 ≤ _)⟩)
      dsimp only [Pt.U, Pt.locs, Pt.cells, Pt.slots] at X143 l143 y143 z143 st143 hQ143
      subst l143 y143 z143
      obtain ⟨r143, rfl, N143q, K143, Er143, Fi143, Fs143⟩ := hQ143
      have N144 := Fr.app N135 N143q
      have f145 := f136.keep K143 all0
      have f146 := f137.keep K143
      have f147 := f138.keep K143 nin0
      have f148 := f139.keep K143 nin0
      have f149 := f140.keep K143
      have f150 := Fn134.keep K143 nin0
      have f151 := Fi134.keep K143 nin0
      have f152 := Fs134.keep K143 nin0
      have z153 := Nat.le_trans z141 K143.1
      refine Go.via (S' := T143.setTop (mkF m 168 #[.val (.int p1), .val (.int p2), .val (.long q3), .second, .val (.long q4), .second, .val (.int p5), .val (.int p6), .val (.int ii), .val (.long ss), .second, .val (.ref b1), .val (.ref nm2), .val (.ref va), .val (.ref b123), .unset, .unset, .unset, .unset, .unset] [(.ref r143)])) (fun _ k => st143.trans k) ?_
      refine Go.via (S' := T143.setTop (mkF m 170 #[.val (.int p1), .val (.int p2), .val (.long q3), .second, .val (.long q4), .second, .val (.int p5), .val (.int p6), .val (.int ii), .val (.long ss), .second, .val (.ref b1), .val (.ref nm2), .val (.ref va), .val (.ref r143), .unset, .unset, .unset, .unset, .unset] [])) (fun _ k => XS.astore X143.here hx rfl (hb hby at_168) rfl rfl (l' := #[.val (.int p1), .val (.int p2), .val (.long q3), .second, .val (.long q4), .second, .val (.int p5), .val (.int p6), .val (.int ii), .val (.long ss), .second, .val (.ref b1), .val (.ref nm2), .val (.ref va), .val (.ref r143), .unset, .unset, .unset, .unset, .unset]) rfl k) ?_
      exact J170 T143 T143.heap _ r143 (X143.more (by decide) (by decide)) rfl N144 z153 f145 f146 f147 f148 Er143 Fi143 Fs143
  intro T142 h142 lo142 vb X142 e142 N142 z142 fk142_0 fk142_1 fk142_2 fk142_3 fn142_0 fn142_1 fn142_2
  refine Go.via (S' := T142.setTop (mkF m 172 #[.val (.int p1), .val (.int p2), .val (.long q3), .second, .val (.long q4), .second, .val (.int p5), .val (.int p6), .val (.int ii), .val (.long ss), .second, .val (.ref b1), .val (.ref nm2), .val (.ref va), .val (.ref vb), .unset, .unset, .unset, .unset, .unset] [(.int p6)])) (fun _ k => XS.iload X142.here hx rfl (hb hby at_170) rfl k) ?_
  refine Go.via (S' := T142.setTop (mkF m 173 #[.val (.int p1), .val (.int p2), .val (.long q3), .second, .val (.long q4), .second, .val (.int p5), .val (.int p6), .val (.int ii), .val (.long ss), .second, .val (.ref b1), .val (.ref nm2), .val (.ref va), .val (.ref vb), .unset, .unset, .unset, .unset, .unset] [(.int (3 : Int32)), (.int p6)])) (fun _ k => XS.iconst X142.here hx rfl (hb hby at_172) k) ?_
  refine Go.via (S' := T142.setTop (mkF m 174 #[.val (.int p1), .val (.int p2), .val (.long q3), .second, .val (.long q4), .second, .val (.int p5), .val (.int p6), .val (.int ii), .val (.long ss), .second, .val (.ref b1), .val (.ref nm2), .val (.ref va), .val (.ref vb), .unset, .unset, .unset, .unset, .unset] [(.int ((p6.toUInt32 >>> ((3 : Int32) &&& 31).toUInt32).toInt32))])) (fun _ k => XS.iushr X142.here hx rfl (hb hby at_173) rfl k) ?_
  refine Go.via (S' := T142.setTop (mkF m 175 #[.val (.int p1), .val (.int p2), .val (.long q3), .second, .val (.long q4), .second, .val (.int p5), .val (.int p6), .val (.int ii), .val (.long ss), .second, .val (.ref b1), .val (.ref nm2), .val (.ref va), .val (.ref vb), .unset, .unset, .unset, .unset, .unset] [(.int (3 : Int32)), (.int ((p6.toUInt32 >>> ((3 : Int32) &&& 31).toUInt32).toInt32))])) (fun _ k => XS.iconst X142.here hx rfl (hb hby at_174) k) ?_
  refine Go.via (S' := T142.setTop (mkF m 176 #[.val (.int p1), .val (.int p2), .val (.long q3), .second, .val (.long q4), .second, .val (.int p5), .val (.int p6), .val (.int ii), .val (.long ss), .second, .val (.ref b1), .val (.ref nm2), .val (.ref va), .val (.ref vb), .unset, .unset, .unset, .unset, .unset] [(.int (((p6.toUInt32 >>> ((3 : Int32) &&& 31).toUInt32).toInt32) &&& (3 : Int32)))])) (fun _ k => XS.iand X142.here hx rfl (hb hby at_175) rfl k) ?_
  refine Go.via (S' := T142.setTop (mkF m 178 #[.val (.int p1), .val (.int p2), .val (.long q3), .second, .val (.long q4), .second, .val (.int p5), .val (.int p6), .val (.int ii), .val (.long ss), .second, .val (.ref b1), .val (.ref nm2), .val (.ref va), .val (.ref vb), .val (.int (((p6.toUInt32 >>> ((3 : Int32) &&& 31).toUInt32).toInt32) &&& (3 : Int32))), .unset, .unset, .unset, .unset] [])) (fun _ k => XS.istore X142.here hx rfl (hb hby at_176) rfl (l' := #[.val (.int p1), .val (.int p2), .val (.long q3), .second, .val (.long q4), .second, .val (.int p5), .val (.int p6), .val (.int ii), .val (.long ss), .second, .val (.ref b1), .val (.ref nm2), .val (.ref va), .val (.ref vb), .val (.int (((p6.toUInt32 >>> ((3 : Int32) &&& 31).toUInt32).toInt32) &&& (3 : Int32))), .unset, .unset, .unset, .unset]) rfl k) ?_
  refine Go.via (S' := T142.setTop (mkF m 180 #[.val (.int p1), .val (.int p2), .val (.long q3), .second, .val (.long q4), .second, .val (.int p5), .val (.int p6), .val (.int ii), .val (.long ss), .second, .val (.ref b1), .val (.ref nm2), .val (.ref va), .val (.ref vb), .val (.int (((p6.toUInt32 >>> ((3 : Int32) &&& 31).toUInt32).toInt32) &&& (3 : Int32))), .unset, .unset, .unset, .unset] [(.int (((p6.toUInt32 >>> ((3 : Int32) &&& 31).toUInt32).toInt32) &&& (3 : Int32)))])) (fun _ k => XS.iload X142.here hx rfl (hb hby at_178) rfl k) ?_
  refine Go.via (S' := T142.setTop (mkF m 181 #[.val (.int p1), .val (.int p2), .val (.long q3), .second, .val (.long q4), .second, .val (.int p5), .val (.int p6), .val (.int ii), .val (.long ss), .second, .val (.ref b1), .val (.ref nm2), .val (.ref va), .val (.ref vb), .val (.int (((p6.toUInt32 >>> ((3 : Int32) &&& 31).toUInt32).toInt32) &&& (3 : Int32))), .unset, .unset, .unset, .unset] [(.int (1 : Int32)), (.int (((p6.toUInt32 >>> ((3 : Int32) &&& 31).toUInt32).toInt32) &&& (3 : Int32)))])) (fun _ k => XS.iconst X142.here hx rfl (hb hby at_180) k) ?_
  rcases Decidable.em ((((p6.toUInt32 >>> ((3 : Int32) &&& 31).toUInt32).toInt32) &&& (3 : Int32)) = (1 : Int32)) with hc181 | hc181
  · refine Go.via (S' := T142.setTop (mkF m 184 #[.val (.int p1), .val (.int p2), .val (.long q3), .second, .val (.long q4), .second, .val (.int p5), .val (.int p6), .val (.int ii), .val (.long ss), .second, .val (.ref b1), .val (.ref nm2), .val (.ref va), .val (.ref vb), .val (.int (((p6.toUInt32 >>> ((3 : Int32) &&& 31).toUInt32).toInt32) &&& (3 : Int32))), .unset, .unset, .unset, .unset] [])) (fun _ k => XS.icmpNo X142.here hx rfl (hb hby at_181) rfl (teq hc181).2 k) ?_
    refine Go.via (S' := T142.setTop (mkF m 185 #[.val (.int p1), .val (.int p2), .val (.long q3), .second, .val (.long q4), .second, .val (.int p5), .val (.int p6), .val (.int ii), .val (.long ss), .second, .val (.ref b1), .val (.ref nm2), .val (.ref va), .val (.ref vb), .val (.int (((p6.toUInt32 >>> ((3 : Int32) &&& 31).toUInt32).toInt32) &&& (3 : Int32))), .unset, .unset, .unset, .unset] [.null])) (fun _ k => XS.aconstNull X142.here hx rfl (hb hby at_184) k) ?_
    refine Go.via (S' := T142.setTop (mkF m 187 #[.val (.int p1), .val (.int p2), .val (.long q3), .second, .val (.long q4), .second, .val (.int p5), .val (.int p6), .val (.int ii), .val (.long ss), .second, .val (.ref b1), .val (.ref nm2), .val (.ref va), .val (.ref vb), .val (.int (((p6.toUInt32 >>> ((3 : Int32) &&& 31).toUInt32).toInt32) &&& (3 : Int32))), .unset, .val .null, .unset, .unset] [])) (fun _ k => XS.astore X142.here hx rfl (hb hby at_185) rfl rfl (l' := #[.val (.int p1), .val (.int p2), .val (.long q3), .second, .val (.long q4), .second, .val (.int p5), .val (.int p6), .val (.int ii), .val (.long ss), .second, .val (.ref b1), .val (.ref nm2), .val (.ref va), .val (.ref vb), .val (.int (((p6.toUInt32 >>> ((3 : Int32) &&& 31).toUInt32).toInt32) &&& (3 : Int32))), .unset, .val .null, .unset, .unset]) rfl k) ?_
    refine Go.via (S' := T142.setTop (mkF m 189 #[.val (.int p1), .val (.int p2), .val (.long q3), .second, .val (.long q4), .second, .val (.int p5), .val (.int p6), .val (.int ii), .val (.long ss), .second, .val (.ref b1), .val (.ref nm2), .val (.ref va), .val (.ref vb), .val (.int (((p6.toUInt32 >>> ((3 : Int32) &&& 31).toUInt32).toInt32) &&& (3 : Int32))), .unset, .val .null, .unset, .unset] [(.ref va)])) (fun _ k => XS.aload X142.here hx rfl (hb hby at_187) rfl rfl k) ?_
    refine Go.via (S' := T142.setTop (mkF m 191 #[.val (.int p1), .val (.int p2), .val (.long q3), .second, .val (.long q4), .second, .val (.int p5), .val (.int p6), .val (.int ii), .val (.long ss), .second, .val (.ref b1), .val (.ref nm2), .val (.ref va), .val (.ref vb), .val (.int (((p6.toUInt32 >>> ((3 : Int32) &&& 31).toUInt32).toInt32) &&& (3 : Int32))), .unset, .val .null, .unset, .unset] [.null, (.ref va)])) (fun _ k => XS.aload X142.here hx rfl (hb hby at_189) rfl rfl k) ?_
    obtain ⟨cq154, kq154, q154a, q154b, q154c⟩ := isOf hZ e142 fk142_1
    obtain ⟨_, _, ⟨T154, L154, k154, n154⟩, -, X154, ⟨Lc154, hQ154, l154, y154, z154⟩, st154⟩ := X142.virtualBack hx (y := (⟨"com/example/covenant/covenant/lang/Variable", "equals", "(Ljava/lang/Object;)Z"⟩ : MethodName)) (z := (⟨"com/example/covenant/covenant/lang/Variable", "equals", "(Ljava/lang/Object;)Z"⟩ : MethodName)) hown (mvT hZ (hw _ (List.mem_of_getElem? (i := 52) rfl))) (mvT hZ (hw _ (List.mem_of_getElem? (i := 53) rfl))) (notFace_of_selects (args := #[]) (mvT hZ (hw _ (List.mem_of_getElem? (i := 55) rfl)))) (mvT hZ (hw _ (List.mem_of_getElem? (i := 55) rfl))) (mvT hZ (hw _ (List.mem_of_getElem? (i := 54) rfl))) (by decide) (backOf (W := 0) (rm10n l Z a0 hw [] va h142 n0 z142) hZ (hw _ (List.mem_of_getElem? (i := 56) rfl)) (hw _ (List.mem_of_getElem? (i := 32) rfl)) (by decide) (by decide)) q154a q154c (g := (mkF m 191 #[.val (.int p1), .val (.int p2), .val (.long q3), .second, .val (.long q4), .second, .val (.int p5), .val (.int p6), .val (.int ii), .val (.long ss), .second, .val (.ref b1), .val (.ref nm2), .val (.ref va), .val (.ref vb), .val (.int (((p6.toUInt32 >>> ((3 : Int32) &&& 31).toUInt32).toInt32) &&& (3 : Int32))), .unset, .val .null, .unset, .unset] [.null, (.ref va)])) rfl (by rw [hml]; rfl) (Steps.refl _) (argsL := [.null]) (rest := []) (lenOf pd_4 rfl) rfl (by show 2 * 0 + _ ≤ _; exact Nat.le_of_eq rfl) (hb hby at_191) (fun _ _ => ⟨rfl, e142, (by decide : 10 + 0 ≤ _), (by decide : 30 + 0 ≤ _)⟩)
    dsimp only [Pt.U, Pt.locs, Pt.cells, Pt.slots] at X154 l154 y154 z154 st154 hQ154
    subst l154 y154 z154
    obtain ⟨rfl, N154q, e154⟩ := hQ154
    have N155 := Fr.app N142 N154q
    refine Go.via (S' := T154.setTop (mkF m 194 #[.val (.int p1), .val (.int p2), .val (.long q3), .second, .val (.long q4), .second, .val (.int p5), .val (.int p6), .val (.int ii), .val (.long ss), .second, .val (.ref b1), .val (.ref nm2), .val (.ref va), .val (.ref vb), .val (.int (((p6.toUInt32 >>> ((3 : Int32) &&& 31).toUInt32).toInt32) &&& (3 : Int32))), .unset, .val .null, .unset, .unset] [(.int (0 : Int32))])) (fun _ k => st154.trans k) ?_
    refine Go.via (S' := T154.setTop (mkF m 197 #[.val (.int p1), .val (.int p2), .val (.long q3), .second, .val (.long q4), .second, .val (.int p5), .val (.int p6), .val (.int ii), .val (.long ss), .second, .val (.ref b1), .val (.ref nm2), .val (.ref va), .val (.ref vb), .val (.int (((p6.toUInt32 >>> ((3 : Int32) &&& 31).toUInt32).toInt32) &&& (3 : Int32))), .unset, .val .null, .unset, .unset] [])) (fun _ k => XS.ifNo X154.here hx rfl (hb hby at_194) rfl ((if0 _ _).trans (teq (by decide)).2) k) ?_
    refine Go.via (S' := T154.setTop (mkF m 198 #[.val (.int p1), .val (.int p2), .val (.long q3), .second, .val (.long q4), .second, .val (.int p5), .val (.int p6), .val (.int ii), .val (.long ss), .second, .val (.ref b1), .val (.ref nm2), .val (.ref va), .val (.ref vb), .val (.int (((p6.toUInt32 >>> ((3 : Int32) &&& 31).toUInt32).toInt32) &&& (3 : Int32))), .unset, .val .null, .unset, .unset] [(.int (1 : Int32))])) (fun _ k => XS.iconst X154.here hx rfl (hb hby at_197) k) ?_
    refine Go.via (S' := T154.setTop (mkF m 202 #[.val (.int p1), .val (.int p2), .val (.long q3), .second, .val (.long q4), .second, .val (.int p5), .val (.int p6), .val (.int ii), .val (.long ss), .second, .val (.ref b1), .val (.ref nm2), .val (.ref va), .val (.ref vb), .val (.int (((p6.toUInt32 >>> ((3 : Int32) &&& 31).toUInt32).toInt32) &&& (3 : Int32))), .unset, .val .null, .unset, .unset] [(.int (1 : Int32))])) (fun _ k => XS.goto X154.here hx rfl (pc0 := 198) (pc' := 202) rfl (hb hby at_198) (by decide) (by decide) k) ?_
    refine Go.via (S' := T154.setTop (mkF m 204 #[.val (.int p1), .val (.int p2), .val (.long q3), .second, .val (.long q4), .second, .val (.int p5), .val (.int p6), .val (.int ii), .val (.long ss), .second, .val (.ref b1), .val (.ref nm2), .val (.ref va), .val (.ref vb), .val (.int (((p6.toUInt32 >>> ((3 : Int32) &&& 31).toUInt32).toInt32) &&& (3 : Int32))), .val (.int (1 : Int32)), .val .null, .unset, .unset] [])) (fun _ k => XS.istore X154.here hx rfl (hb hby at_202) rfl (l' := #[.val (.int p1), .val (.int p2), .val (.long q3), .second, .val (.long q4), .second, .val (.int p5), .val (.int p6), .val (.int ii), .val (.long ss), .second, .val (.ref b1), .val (.ref nm2), .val (.ref va), .val (.ref vb), .val (.int (((p6.toUInt32 >>> ((3 : Int32) &&& 31).toUInt32).toInt32) &&& (3 : Int32))), .val (.int (1 : Int32)), .val .null, .unset, .unset]) rfl k) ?_
    refine Go.via (S' := T154.setTop (mkF m 325 #[.val (.int p1), .val (.int p2), .val (.long q3), .second, .val (.long q4), .second, .val (.int p5), .val (.int p6), .val (.int ii), .val (.long ss), .second, .val (.ref b1), .val (.ref nm2), .val (.ref va), .val (.ref vb), .val (.int (((p6.toUInt32 >>> ((3 : Int32) &&& 31).toUInt32).toInt32) &&& (3 : Int32))), .val (.int (1 : Int32)), .val .null, .unset, .unset] [])) (fun _ k => XS.goto X154.here hx rfl (pc0 := 204) (pc' := 325) rfl (hb hby at_204) (by decide) (by decide) k) ?_
    refine Go.via (S' := T154.setTop (mkF m 327 #[.val (.int p1), .val (.int p2), .val (.long q3), .second, .val (.long q4), .second, .val (.int p5), .val (.int p6), .val (.int ii), .val (.long ss), .second, .val (.ref b1), .val (.ref nm2), .val (.ref va), .val (.ref vb), .val (.int (((p6.toUInt32 >>> ((3 : Int32) &&& 31).toUInt32).toInt32) &&& (3 : Int32))), .val (.int (1 : Int32)), .val .null, .unset, .unset] [(.int (1 : Int32))])) (fun _ k => XS.iload X154.here hx rfl (hb hby at_325) rfl k) ?_
    exact Go.retB X154 hx (BodyLoose.notSynchronized Bd) Bd.returns (hb hby at_327) rfl (by rw [e154]; exact ⟨rfl, N155⟩) (by decide) (by decide)
  · refine Go.via (S' := T142.setTop (mkF m 207 #[.val (.int p1), .val (.int p2), .val (.long q3), .second, .val (.long q4), .second, .val (.int p5), .val (.int p6), .val (.int ii), .val (.long ss), .second, .val (.ref b1), .val (.ref nm2), .val (.ref va), .val (.ref vb), .val (.int (((p6.toUInt32 >>> ((3 : Int32) &&& 31).toUInt32).toInt32) &&& (3 : Int32))), .unset, .unset, .unset, .unset] [])) (fun _ k => XS.icmpYes X142.here hx rfl (pc0 := 181) (pc' := 207) rfl (hb hby at_181) rfl (feq hc181).2 (by decide) (by decide) k) ?_
    refine Go.via (S' := T142.setTop (mkF m 209 #[.val (.int p1), .val (.int p2), .val (.long q3), .second, .val (.long q4), .second, .val (.int p5), .val (.int p6), .val (.int ii), .val (.long ss), .second, .val (.ref b1), .val (.ref nm2), .val (.ref va), .val (.ref vb), .val (.int (((p6.toUInt32 >>> ((3 : Int32) &&& 31).toUInt32).toInt32) &&& (3 : Int32))), .unset, .unset, .unset, .unset] [(.int (((p6.toUInt32 >>> ((3 : Int32) &&& 31).toUInt32).toInt32) &&& (3 : Int32)))])) (fun _ k => XS.iload X142.here hx rfl (hb hby at_207) rfl k) ?_
    refine Go.via (S' := T142.setTop (mkF m 210 #[.val (.int p1), .val (.int p2), .val (.long q3), .second, .val (.long q4), .second, .val (.int p5), .val (.int p6), .val (.int ii), .val (.long ss), .second, .val (.ref b1), .val (.ref nm2), .val (.ref va), .val (.ref vb), .val (.int (((p6.toUInt32 >>> ((3 : Int32) &&& 31).toUInt32).toInt32) &&& (3 : Int32))), .unset, .unset, .unset, .unset] [(.int (2 : Int32)), (.int (((p6.toUInt32 >>> ((3 : Int32) &&& 31).toUInt32).toInt32) &&& (3 : Int32)))])) (fun _ k => XS.iconst X142.here hx rfl (hb hby at_209) k) ?_
    rcases Decidable.em ((((p6.toUInt32 >>> ((3 : Int32) &&& 31).toUInt32).toInt32) &&& (3 : Int32)) = (2 : Int32)) with hc210 | hc210
    · refine Go.via (S' := T142.setTop (mkF m 213 #[.val (.int p1), .val (.int p2), .val (.long q3), .second, .val (.long q4), .second, .val (.int p5), .val (.int p6), .val (.int ii), .val (.long ss), .second, .val (.ref b1), .val (.ref nm2), .val (.ref va), .val (.ref vb), .val (.int (((p6.toUInt32 >>> ((3 : Int32) &&& 31).toUInt32).toInt32) &&& (3 : Int32))), .unset, .unset, .unset, .unset] [])) (fun _ k => XS.icmpNo X142.here hx rfl (hb hby at_210) rfl (teq hc210).2 k) ?_
      obtain ⟨T156, h156, X156, e156, E156, A156, D156, -, st156⟩ := newO X142 hx hZ hown (hw _ (List.mem_of_getElem? (i := 58) rfl)) (hw _ (List.mem_of_getElem? (i := 59) rfl)) (hw _ (List.mem_of_getElem? (i := 60) rfl)) e142 (g := (mkF m 213 #[.val (.int p1), .val (.int p2), .val (.long q3), .second, .val (.long q4), .second, .val (.int p5), .val (.int p6), .val (.int ii), .val (.long ss), .second, .val (.ref b1), .val (.ref nm2), .val (.ref va), .val (.ref vb), .val (.int (((p6.toUInt32 >>> ((3 : Int32) &&& 31).toUInt32).toInt32) &&& (3 : Int32))), .unset, .unset, .unset, .unset] [])) rfl (hb hby at_213) (by decide) (by decide)
      obtain ⟨b156, g156⟩ : ∃ z, z = h142.size := ⟨_, rfl⟩
      rw [← g156] at A156 D156 st156
      have ne157 : va ≠ b156 := Nat.ne_of_lt (Nat.lt_of_lt_of_le fk142_1.lt (Nat.le_of_eq g156.symm))
      have ne158 : vb ≠ b156 := Nat.ne_of_lt (Nat.lt_of_lt_of_le fn142_0.lt (Nat.le_of_eq g156.symm))
      have g159 : n0 ≤ b156 := Nat.le_trans z142 (Nat.le_of_eq g156.symm)
      have f160 := fk142_0.ext E156
      have f161 := fk142_1.ext E156
      have f162 := fk142_2.ext E156
      have f163 := fk142_3.ext E156
      have f164 := fn142_0.ext E156
      have f165 := fn142_1.ext E156
      have f166 := fn142_2.ext E156
      have z167 := Nat.le_trans z142 E156.1
      have F168 : Fld Z h156 b156 "com/example/covenant/covenant/lang/IntegerTerm" "value" "J" (.long (0 : Int64)) := D156 (Or.inr (hw _ (List.mem_of_getElem? (i := 66) rfl))) (ty := .long) (by decide)
      refine Go.via (S' := T156.setTop (mkF m 216 #[.val (.int p1), .val (.int p2), .val (.long q3), .second, .val (.long q4), .second, .val (.int p5), .val (.int p6), .val (.int ii), .val (.long ss), .second, .val (.ref b1), .val (.ref nm2), .val (.ref va), .val (.ref vb), .val (.int (((p6.toUInt32 >>> ((3 : Int32) &&& 31).toUInt32).toInt32) &&& (3 : Int32))), .unset, .unset, .unset, .unset] [(.ref b156)])) (fun _ k => st156 _ k) ?_
      refine Go.via (S' := T156.setTop (mkF m 217 #[.val (.int p1), .val (.int p2), .val (.long q3), .second, .val (.long q4), .second, .val (.int p5), .val (.int p6), .val (.int ii), .val (.long ss), .second, .val (.ref b1), .val (.ref nm2), .val (.ref va), .val (.ref vb), .val (.int (((p6.toUInt32 >>> ((3 : Int32) &&& 31).toUInt32).toInt32) &&& (3 : Int32))), .unset, .unset, .unset, .unset] [(.ref b156), (.ref b156)])) (fun _ k => XS.dup X156.here hx rfl (hb hby at_216) rfl rfl k) ?_
      refine Go.via (S' := T156.setTop (mkF m 219 #[.val (.int p1), .val (.int p2), .val (.long q3), .second, .val (.long q4), .second, .val (.int p5), .val (.int p6), .val (.int ii), .val (.long ss), .second, .val (.ref b1), .val (.ref nm2), .val (.ref va), .val (.ref vb), .val (.int (((p6.toUInt32 >>> ((3 : Int32) &&& 31).toUInt32).toInt32) &&& (3 : Int32))), .unset, .unset, .unset, .unset] [(.long ss), (.ref b156), (.ref b156)])) (fun _ k => XS.lload X156.here hx rfl (hb hby at_217) rfl k) ?_
      obtain ⟨_, _, ⟨T169, L169, k169, n169⟩, -, X169, ⟨Lc169, hQ169, l169, y169, z169⟩, st169⟩ := X156.specialBack hx (y := (⟨"com/example/covenant/covenant/lang/IntegerTerm", "<init>", "(J)V"⟩ : MethodName)) rfl hown (mvT hZ (hw _ (List.mem_of_getElem? (i := 61) rfl))) (mvT hZ (hw _ (List.mem_of_getElem? (i := 62) rfl))) (mvT hZ (hw _ (List.mem_of_getElem? (i := 63) rfl))) (by decide) (backOf (W := 1) (rm11 l Z a0 hw [] b156 ss h156 n0 z167 A156 F168 g159) hZ (hw _ (List.mem_of_getElem? (i := 63) rfl)) (hw _ (List.mem_of_getElem? (i := 60) rfl)) (by decide) (by decide)) (g := (mkF m 219 #[.val (.int p1), .val (.int p2), .val (.long q3), .second, .val (.long q4), .second, .val (.int p5), .val (.int p6), .val (.int ii), .val (.long ss), .second, .val (.ref b1), .val (.ref nm2), .val (.ref va), .val (.ref vb), .val (.int (((p6.toUInt32 >>> ((3 : Int32) &&& 31).toUInt32).toInt32) &&& (3 : Int32))), .unset, .unset, .unset, .unset] [(.long ss), (.ref b156), (.ref b156)])) rfl (by rw [hml]; rfl) (Steps.refl _) (a := b156) (argsL := [(.long ss)]) (rest := [(.ref b156)]) (lenOf pd_5 rfl) rfl (by show 2 * 0 + _ ≤ _; exact Nat.le_of_eq rfl) (hb hby at_219) (fun _ _ => ⟨rfl, e156, (by decide : 11 + 0 ≤ _), (by decide : 31 + 0 ≤ _)⟩)
      dsimp only [Pt.U, Pt.locs, Pt.cells, Pt.slots] at X169 l169 y169 z169 st169 hQ169
      subst l169 y169 z169
      obtain ⟨rfl, N169q, K169⟩ := hQ169
      have N170 := Fr.app N142 N169q
      have f171 := f160.keep K169 (allS g159 all0)
      have f172 := f161.keep K169
      have f173 := f162.keep K169 (ninS ne157 nin0)
      have f174 := f163.keep K169 (ninS ne157 nin0)
      have f175 := f164.keep K169
      have f176 := f165.keep K169 (ninS ne158 nin0)
      have f177 := f166.keep K169 (ninS ne158 nin0)
      have f178 := A156.keep K169
      have z179 := Nat.le_trans z167 K169.1
      refine Go.via (S' := T169.setTop (mkF m 222 #[.val (.int p1), .val (.int p2), .val (.long q3), .second, .val (.long q4), .second, .val (.int p5), .val (.int p6), .val (.int ii), .val (.long ss), .second, .val (.ref b1), .val (.ref nm2), .val (.ref va), .val (.ref vb), .val (.int (((p6.toUInt32 >>> ((3 : Int32) &&& 31).toUInt32).toInt32) &&& (3 : Int32))), .unset, .unset, .unset, .unset] [(.ref b156)])) (fun _ k => st169.trans k) ?_
      refine Go.via (S' := T169.setTop (mkF m 224 #[.val (.int p1), .val (.int p2), .val (.long q3), .second, .val (.long q4), .second, .val (.int p5), .val (.int p6), .val (.int ii), .val (.long ss), .second, .val (.ref b1), .val (.ref nm2), .val (.ref va), .val (.ref vb), .val (.int (((p6.toUInt32 >>> ((3 : Int32) &&& 31).toUInt32).toInt32) &&& (3 : Int32))), .unset, .val (.ref b156), .unset, .unset] [])) (fun _ k => XS.astore X169.here hx rfl (hb hby at_222) rfl rfl (l' := #[.val (.int p1), .val (.int p2), .val (.long q3), .second, .val (.long q4), .second, .val (.int p5), .val (.int p6), .val (.int ii), .val (.long ss), .second, .val (.ref b1), .val (.ref nm2), .val (.ref va), .val (.ref vb), .val (.int (((p6.toUInt32 >>> ((3 : Int32) &&& 31).toUInt32).toInt32) &&& (3 : Int32))), .unset, .val (.ref b156), .unset, .unset]) rfl k) ?_
      refine Go.via (S' := T169.setTop (mkF m 226 #[.val (.int p1), .val (.int p2), .val (.long q3), .second, .val (.long q4), .second, .val (.int p5), .val (.int p6), .val (.int ii), .val (.long ss), .second, .val (.ref b1), .val (.ref nm2), .val (.ref va), .val (.ref vb), .val (.int (((p6.toUInt32 >>> ((3 : Int32) &&& 31).toUInt32).toInt32) &&& (3 : Int32))), .unset, .val (.ref b156), .unset, .unset] [(.ref va)])) (fun _ k => XS.aload X169.here hx rfl (hb hby at_224) rfl rfl k) ?_
      refine Go.via (S' := T169.setTop (mkF m 228 #[.val (.int p1), .val (.int p2), .val (.long q3), .second, .val (.long q4), .second, .val (.int p5), .val (.int p6), .val (.int ii), .val (.long ss), .second, .val (.ref b1), .val (.ref nm2), .val (.ref va), .val (.ref vb), .val (.int (((p6.toUInt32 >>> ((3 : Int32) &&& 31).toUInt32).toInt32) &&& (3 : Int32))), .unset, .val (.ref b156), .unset, .unset] [(.ref b156), (.ref va)])) (fun _ k => XS.aload X169.here hx rfl (hb hby at_226) rfl rfl k) ?_
      obtain ⟨cq180, kq180, q180a, q180b, q180c⟩ := isOf hZ rfl f172
      obtain ⟨_, _, ⟨T180, L180, k180, n180⟩, -, X180, ⟨Lc180, hQ180, l180, y180, z180⟩, st180⟩ := X169.virtualBack hx (y := (⟨"com/example/covenant/covenant/lang/Variable", "equals", "(Ljava/lang/Object;)Z"⟩ : MethodName)) (z := (⟨"com/example/covenant/covenant/lang/Variable", "equals", "(Ljava/lang/Object;)Z"⟩ : MethodName)) hown (mvT hZ (hw _ (List.mem_of_getElem? (i := 52) rfl))) (mvT hZ (hw _ (List.mem_of_getElem? (i := 53) rfl))) (notFace_of_selects (args := #[]) (mvT hZ (hw _ (List.mem_of_getElem? (i := 55) rfl)))) (mvT hZ (hw _ (List.mem_of_getElem? (i := 55) rfl))) (mvT hZ (hw _ (List.mem_of_getElem? (i := 54) rfl))) (by decide) (backOf (W := 0) (rm10t l Z a0 hw [] va b156 T169.heap n0 z179 f178) hZ (hw _ (List.mem_of_getElem? (i := 56) rfl)) (hw _ (List.mem_of_getElem? (i := 32) rfl)) (by decide) (by decide)) q180a q180c (g := (mkF m 228 #[.val (.int p1), .val (.int p2), .val (.long q3), .second, .val (.long q4), .second, .val (.int p5), .val (.int p6), .val (.int ii), .val (.long ss), .second, .val (.ref b1), .val (.ref nm2), .val (.ref va), .val (.ref vb), .val (.int (((p6.toUInt32 >>> ((3 : Int32) &&& 31).toUInt32).toInt32) &&& (3 : Int32))), .unset, .val (.ref b156), .unset, .unset] [(.ref b156), (.ref va)])) rfl (by rw [hml]; rfl) (Steps.refl _) (argsL := [(.ref b156)]) (rest := []) (lenOf pd_4 rfl) rfl (by show 2 * 0 + _ ≤ _; exact Nat.le_of_eq rfl) (hb hby at_228) (fun _ _ => ⟨rfl, rfl, (by decide : 11 + 0 ≤ _), (by decide : 31 + 0 ≤ _)⟩)
      dsimp only [Pt.U, Pt.locs, Pt.cells, Pt.slots] at X180 l180 y180 z180 st180 hQ180
      subst l180 y180 z180
      obtain ⟨rfl, N180q, e180⟩ := hQ180
      have N181 := Fr.app N170 N180q
      refine Go.via (S' := T180.setTop (mkF m 231 #[.val (.int p1), .val (.int p2), .val (.long q3), .second, .val (.long q4), .second, .val (.int p5), .val (.int p6), .val (.int ii), .val (.long ss), .second, .val (.ref b1), .val (.ref nm2), .val (.ref va), .val (.ref vb), .val (.int (((p6.toUInt32 >>> ((3 : Int32) &&& 31).toUInt32).toInt32) &&& (3 : Int32))), .unset, .val (.ref b156), .unset, .unset] [(.int (0 : Int32))])) (fun _ k => st180.trans k) ?_
      refine Go.via (S' := T180.setTop (mkF m 234 #[.val (.int p1), .val (.int p2), .val (.long q3), .second, .val (.long q4), .second, .val (.int p5), .val (.int p6), .val (.int ii), .val (.long ss), .second, .val (.ref b1), .val (.ref nm2), .val (.ref va), .val (.ref vb), .val (.int (((p6.toUInt32 >>> ((3 : Int32) &&& 31).toUInt32).toInt32) &&& (3 : Int32))), .unset, .val (.ref b156), .unset, .unset] [])) (fun _ k => XS.ifNo X180.here hx rfl (hb hby at_231) rfl ((if0 _ _).trans (teq (by decide)).2) k) ?_
      refine Go.via (S' := T180.setTop (mkF m 235 #[.val (.int p1), .val (.int p2), .val (.long q3), .second, .val (.long q4), .second, .val (.int p5), .val (.int p6), .val (.int ii), .val (.long ss), .second, .val (.ref b1), .val (.ref nm2), .val (.ref va), .val (.ref vb), .val (.int (((p6.toUInt32 >>> ((3 : Int32) &&& 31).toUInt32).toInt32) &&& (3 : Int32))), .unset, .val (.ref b156), .unset, .unset] [(.int (1 : Int32))])) (fun _ k => XS.iconst X180.here hx rfl (hb hby at_234) k) ?_
      refine Go.via (S' := T180.setTop (mkF m 239 #[.val (.int p1), .val (.int p2), .val (.long q3), .second, .val (.long q4), .second, .val (.int p5), .val (.int p6), .val (.int ii), .val (.long ss), .second, .val (.ref b1), .val (.ref nm2), .val (.ref va), .val (.ref vb), .val (.int (((p6.toUInt32 >>> ((3 : Int32) &&& 31).toUInt32).toInt32) &&& (3 : Int32))), .unset, .val (.ref b156), .unset, .unset] [(.int (1 : Int32))])) (fun _ k => XS.goto X180.here hx rfl (pc0 := 235) (pc' := 239) rfl (hb hby at_235) (by decide) (by decide) k) ?_
      refine Go.via (S' := T180.setTop (mkF m 241 #[.val (.int p1), .val (.int p2), .val (.long q3), .second, .val (.long q4), .second, .val (.int p5), .val (.int p6), .val (.int ii), .val (.long ss), .second, .val (.ref b1), .val (.ref nm2), .val (.ref va), .val (.ref vb), .val (.int (((p6.toUInt32 >>> ((3 : Int32) &&& 31).toUInt32).toInt32) &&& (3 : Int32))), .val (.int (1 : Int32)), .val (.ref b156), .unset, .unset] [])) (fun _ k => XS.istore X180.here hx rfl (hb hby at_239) rfl (l' := #[.val (.int p1), .val (.int p2), .val (.long q3), .second, .val (.long q4), .second, .val (.int p5), .val (.int p6), .val (.int ii), .val (.long ss), .second, .val (.ref b1), .val (.ref nm2), .val (.ref va), .val (.ref vb), .val (.int (((p6.toUInt32 >>> ((3 : Int32) &&& 31).toUInt32).toInt32) &&& (3 : Int32))), .val (.int (1 : Int32)), .val (.ref b156), .unset, .unset]) rfl k) ?_
      refine Go.via (S' := T180.setTop (mkF m 325 #[.val (.int p1), .val (.int p2), .val (.long q3), .second, .val (.long q4), .second, .val (.int p5), .val (.int p6), .val (.int ii), .val (.long ss), .second, .val (.ref b1), .val (.ref nm2), .val (.ref va), .val (.ref vb), .val (.int (((p6.toUInt32 >>> ((3 : Int32) &&& 31).toUInt32).toInt32) &&& (3 : Int32))), .val (.int (1 : Int32)), .val (.ref b156), .unset, .unset] [])) (fun _ k => XS.goto X180.here hx rfl (pc0 := 241) (pc' := 325) rfl (hb hby at_241) (by decide) (by decide) k) ?_
      refine Go.via (S' := T180.setTop (mkF m 327 #[.val (.int p1), .val (.int p2), .val (.long q3), .second, .val (.long q4), .second, .val (.int p5), .val (.int p6), .val (.int ii), .val (.long ss), .second, .val (.ref b1), .val (.ref nm2), .val (.ref va), .val (.ref vb), .val (.int (((p6.toUInt32 >>> ((3 : Int32) &&& 31).toUInt32).toInt32) &&& (3 : Int32))), .val (.int (1 : Int32)), .val (.ref b156), .unset, .unset] [(.int (1 : Int32))])) (fun _ k => XS.iload X180.here hx rfl (hb hby at_325) rfl k) ?_
      exact Go.retB X180 hx (BodyLoose.notSynchronized Bd) Bd.returns (hb hby at_327) rfl (by rw [e180]; exact ⟨rfl, N181⟩) (by decide) (by decide)
    · refine Go.via (S' := T142.setTop (mkF m 244 #[.val (.int p1), .val (.int p2), .val (.long q3), .second, .val (.long q4), .second, .val (.int p5), .val (.int p6), .val (.int ii), .val (.long ss), .second, .val (.ref b1), .val (.ref nm2), .val (.ref va), .val (.ref vb), .val (.int (((p6.toUInt32 >>> ((3 : Int32) &&& 31).toUInt32).toInt32) &&& (3 : Int32))), .unset, .unset, .unset, .unset] [])) (fun _ k => XS.icmpYes X142.here hx rfl (pc0 := 210) (pc' := 244) rfl (hb hby at_210) rfl (feq hc210).2 (by decide) (by decide) k) ?_
      refine Go.via (S' := T142.setTop (mkF m 246 #[.val (.int p1), .val (.int p2), .val (.long q3), .second, .val (.long q4), .second, .val (.int p5), .val (.int p6), .val (.int ii), .val (.long ss), .second, .val (.ref b1), .val (.ref nm2), .val (.ref va), .val (.ref vb), .val (.int (((p6.toUInt32 >>> ((3 : Int32) &&& 31).toUInt32).toInt32) &&& (3 : Int32))), .unset, .unset, .unset, .unset] [(.int (((p6.toUInt32 >>> ((3 : Int32) &&& 31).toUInt32).toInt32) &&& (3 : Int32)))])) (fun _ k => XS.iload X142.here hx rfl (hb hby at_244) rfl k) ?_
      refine Go.via (S' := T142.setTop (mkF m 247 #[.val (.int p1), .val (.int p2), .val (.long q3), .second, .val (.long q4), .second, .val (.int p5), .val (.int p6), .val (.int ii), .val (.long ss), .second, .val (.ref b1), .val (.ref nm2), .val (.ref va), .val (.ref vb), .val (.int (((p6.toUInt32 >>> ((3 : Int32) &&& 31).toUInt32).toInt32) &&& (3 : Int32))), .unset, .unset, .unset, .unset] [(.int (3 : Int32)), (.int (((p6.toUInt32 >>> ((3 : Int32) &&& 31).toUInt32).toInt32) &&& (3 : Int32)))])) (fun _ k => XS.iconst X142.here hx rfl (hb hby at_246) k) ?_
      rcases Decidable.em ((((p6.toUInt32 >>> ((3 : Int32) &&& 31).toUInt32).toInt32) &&& (3 : Int32)) = (3 : Int32)) with hc247 | hc247
      · refine Go.via (S' := T142.setTop (mkF m 250 #[.val (.int p1), .val (.int p2), .val (.long q3), .second, .val (.long q4), .second, .val (.int p5), .val (.int p6), .val (.int ii), .val (.long ss), .second, .val (.ref b1), .val (.ref nm2), .val (.ref va), .val (.ref vb), .val (.int (((p6.toUInt32 >>> ((3 : Int32) &&& 31).toUInt32).toInt32) &&& (3 : Int32))), .unset, .unset, .unset, .unset] [])) (fun _ k => XS.icmpNo X142.here hx rfl (hb hby at_247) rfl (teq hc247).2 k) ?_
        refine Go.via (S' := T142.setTop (mkF m 252 #[.val (.int p1), .val (.int p2), .val (.long q3), .second, .val (.long q4), .second, .val (.int p5), .val (.int p6), .val (.int ii), .val (.long ss), .second, .val (.ref b1), .val (.ref nm2), .val (.ref va), .val (.ref vb), .val (.int (((p6.toUInt32 >>> ((3 : Int32) &&& 31).toUInt32).toInt32) &&& (3 : Int32))), .unset, .unset, .unset, .unset] [(.ref va)])) (fun _ k => XS.aload X142.here hx rfl (hb hby at_250) rfl rfl k) ?_
        refine Go.via (S' := T142.setTop (mkF m 254 #[.val (.int p1), .val (.int p2), .val (.long q3), .second, .val (.long q4), .second, .val (.int p5), .val (.int p6), .val (.int ii), .val (.long ss), .second, .val (.ref b1), .val (.ref nm2), .val (.ref va), .val (.ref vb), .val (.int (((p6.toUInt32 >>> ((3 : Int32) &&& 31).toUInt32).toInt32) &&& (3 : Int32))), .unset, .val (.ref va), .unset, .unset] [])) (fun _ k => XS.astore X142.here hx rfl (hb hby at_252) rfl rfl (l' := #[.val (.int p1), .val (.int p2), .val (.long q3), .second, .val (.long q4), .second, .val (.int p5), .val (.int p6), .val (.int ii), .val (.long ss), .second, .val (.ref b1), .val (.ref nm2), .val (.ref va), .val (.ref vb), .val (.int (((p6.toUInt32 >>> ((3 : Int32) &&& 31).toUInt32).toInt32) &&& (3 : Int32))), .unset, .val (.ref va), .unset, .unset]) rfl k) ?_
        refine Go.via (S' := T142.setTop (mkF m 256 #[.val (.int p1), .val (.int p2), .val (.long q3), .second, .val (.long q4), .second, .val (.int p5), .val (.int p6), .val (.int ii), .val (.long ss), .second, .val (.ref b1), .val (.ref nm2), .val (.ref va), .val (.ref vb), .val (.int (((p6.toUInt32 >>> ((3 : Int32) &&& 31).toUInt32).toInt32) &&& (3 : Int32))), .unset, .val (.ref va), .unset, .unset] [(.ref va)])) (fun _ k => XS.aload X142.here hx rfl (hb hby at_254) rfl rfl k) ?_
        refine Go.via (S' := T142.setTop (mkF m 258 #[.val (.int p1), .val (.int p2), .val (.long q3), .second, .val (.long q4), .second, .val (.int p5), .val (.int p6), .val (.int ii), .val (.long ss), .second, .val (.ref b1), .val (.ref nm2), .val (.ref va), .val (.ref vb), .val (.int (((p6.toUInt32 >>> ((3 : Int32) &&& 31).toUInt32).toInt32) &&& (3 : Int32))), .unset, .val (.ref va), .unset, .unset] [(.ref va), (.ref va)])) (fun _ k => XS.aload X142.here hx rfl (hb hby at_256) rfl rfl k) ?_
        obtain ⟨cq182, kq182, q182a, q182b, q182c⟩ := isOf hZ e142 fk142_1
        obtain ⟨_, _, ⟨T182, L182, k182, n182⟩, -, X182, ⟨Lc182, hQ182, l182, y182, z182⟩, st182⟩ := X142.virtualBack hx (y := (⟨"com/example/covenant/covenant/lang/Variable", "equals", "(Ljava/lang/Object;)Z"⟩ : MethodName)) (z := (⟨"com/example/covenant/covenant/lang/Variable", "equals", "(Ljava/lang/Object;)Z"⟩ : MethodName)) hown (mvT hZ (hw _ (List.mem_of_getElem? (i := 52) rfl))) (mvT hZ (hw _ (List.mem_of_getElem? (i := 53) rfl))) (notFace_of_selects (args := #[]) (mvT hZ (hw _ (List.mem_of_getElem? (i := 55) rfl)))) (mvT hZ (hw _ (List.mem_of_getElem? (i := 55) rfl))) (mvT hZ (hw _ (List.mem_of_getElem? (i := 54) rfl))) (by decide) (backOf (W := 0) (rm10 l Z a0 hw [] va va p1 p1 q3 q3 h142 n0 z142 fk142_2 fk142_3 fk142_1 fk142_2 fk142_3) hZ (hw _ (List.mem_of_getElem? (i := 56) rfl)) (hw _ (List.mem_of_getElem? (i := 32) rfl)) (by decide) (by decide)) q182a q182c (g := (mkF m 258 #[.val (.int p1), .val (.int p2), .val (.long q3), .second, .val (.long q4), .second, .val (.int p5), .val (.int p6), .val (.int ii), .val (.long ss), .second, .val (.ref b1), .val (.ref nm2), .val (.ref va), .val (.ref vb), .val (.int (((p6.toUInt32 >>> ((3 : Int32) &&& 31).toUInt32).toInt32) &&& (3 : Int32))), .unset, .val (.ref va), .unset, .unset] [(.ref va), (.ref va)])) rfl (by rw [hml]; rfl) (Steps.refl _) (argsL := [(.ref va)]) (rest := []) (lenOf pd_4 rfl) rfl (by show 2 * 0 + _ ≤ _; exact Nat.le_of_eq rfl) (hb hby at_258) (fun _ _ => ⟨rfl, e142, (by decide : 10 + 0 ≤ _), (by decide : 30 + 0 ≤ _)⟩)
        dsimp only [Pt.U, Pt.locs, Pt.cells, Pt.slots] at X182 l182 y182 z182 st182 hQ182
        subst l182 y182 z182
        obtain ⟨r182, rfl, N182q, e182, hr182⟩ := hQ182
        have N183 := Fr.app N142 N182q
        refine Go.via (S' := T182.setTop (mkF m 261 #[.val (.int p1), .val (.int p2), .val (.long q3), .second, .val (.long q4), .second, .val (.int p5), .val (.int p6), .val (.int ii), .val (.long ss), .second, .val (.ref b1), .val (.ref nm2), .val (.ref va), .val (.ref vb), .val (.int (((p6.toUInt32 >>> ((3 : Int32) &&& 31).toUInt32).toInt32) &&& (3 : Int32))), .unset, .val (.ref va), .unset, .unset] [(.int r182)])) (fun _ k => st182.trans k) ?_
        rcases hr182 with ⟨rfl, hB182⟩ | ⟨rfl, hB182⟩
        · refine Go.via (S' := T182.setTop (mkF m 263 #[.val (.int p1), .val (.int p2), .val (.long q3), .second, .val (.long q4), .second, .val (.int p5), .val (.int p6), .val (.int ii), .val (.long ss), .second, .val (.ref b1), .val (.ref nm2), .val (.ref va), .val (.ref vb), .val (.int (((p6.toUInt32 >>> ((3 : Int32) &&& 31).toUInt32).toInt32) &&& (3 : Int32))), .val (.int (1 : Int32)), .val (.ref va), .unset, .unset] [])) (fun _ k => XS.istore X182.here hx rfl (hb hby at_261) rfl (l' := #[.val (.int p1), .val (.int p2), .val (.long q3), .second, .val (.long q4), .second, .val (.int p5), .val (.int p6), .val (.int ii), .val (.long ss), .second, .val (.ref b1), .val (.ref nm2), .val (.ref va), .val (.ref vb), .val (.int (((p6.toUInt32 >>> ((3 : Int32) &&& 31).toUInt32).toInt32) &&& (3 : Int32))), .val (.int (1 : Int32)), .val (.ref va), .unset, .unset]) rfl k) ?_
          refine Go.via (S' := T182.setTop (mkF m 325 #[.val (.int p1), .val (.int p2), .val (.long q3), .second, .val (.long q4), .second, .val (.int p5), .val (.int p6), .val (.int ii), .val (.long ss), .second, .val (.ref b1), .val (.ref nm2), .val (.ref va), .val (.ref vb), .val (.int (((p6.toUInt32 >>> ((3 : Int32) &&& 31).toUInt32).toInt32) &&& (3 : Int32))), .val (.int (1 : Int32)), .val (.ref va), .unset, .unset] [])) (fun _ k => XS.goto X182.here hx rfl (pc0 := 263) (pc' := 325) rfl (hb hby at_263) (by decide) (by decide) k) ?_
          refine Go.via (S' := T182.setTop (mkF m 327 #[.val (.int p1), .val (.int p2), .val (.long q3), .second, .val (.long q4), .second, .val (.int p5), .val (.int p6), .val (.int ii), .val (.long ss), .second, .val (.ref b1), .val (.ref nm2), .val (.ref va), .val (.ref vb), .val (.int (((p6.toUInt32 >>> ((3 : Int32) &&& 31).toUInt32).toInt32) &&& (3 : Int32))), .val (.int (1 : Int32)), .val (.ref va), .unset, .unset] [(.int (1 : Int32))])) (fun _ k => XS.iload X182.here hx rfl (hb hby at_325) rfl k) ?_
          exact Go.retB X182 hx (BodyLoose.notSynchronized Bd) Bd.returns (hb hby at_327) rfl (by rw [e182]; exact ⟨rfl, N183⟩) (by decide) (by decide)
        · refine Go.via (S' := T182.setTop (mkF m 263 #[.val (.int p1), .val (.int p2), .val (.long q3), .second, .val (.long q4), .second, .val (.int p5), .val (.int p6), .val (.int ii), .val (.long ss), .second, .val (.ref b1), .val (.ref nm2), .val (.ref va), .val (.ref vb), .val (.int (((p6.toUInt32 >>> ((3 : Int32) &&& 31).toUInt32).toInt32) &&& (3 : Int32))), .val (.int (0 : Int32)), .val (.ref va), .unset, .unset] [])) (fun _ k => XS.istore X182.here hx rfl (hb hby at_261) rfl (l' := #[.val (.int p1), .val (.int p2), .val (.long q3), .second, .val (.long q4), .second, .val (.int p5), .val (.int p6), .val (.int ii), .val (.long ss), .second, .val (.ref b1), .val (.ref nm2), .val (.ref va), .val (.ref vb), .val (.int (((p6.toUInt32 >>> ((3 : Int32) &&& 31).toUInt32).toInt32) &&& (3 : Int32))), .val (.int (0 : Int32)), .val (.ref va), .unset, .unset]) rfl k) ?_
          refine Go.via (S' := T182.setTop (mkF m 325 #[.val (.int p1), .val (.int p2), .val (.long q3), .second, .val (.long q4), .second, .val (.int p5), .val (.int p6), .val (.int ii), .val (.long ss), .second, .val (.ref b1), .val (.ref nm2), .val (.ref va), .val (.ref vb), .val (.int (((p6.toUInt32 >>> ((3 : Int32) &&& 31).toUInt32).toInt32) &&& (3 : Int32))), .val (.int (0 : Int32)), .val (.ref va), .unset, .unset] [])) (fun _ k => XS.goto X182.here hx rfl (pc0 := 263) (pc' := 325) rfl (hb hby at_263) (by decide) (by decide) k) ?_
          exfalso
          first | exact hB182 ⟨rfl, rfl⟩ | exact hB182 ⟨hc269, hc276⟩ | exact hc269 hB182.1 | exact hc276 hB182.2 | exact hB182 ⟨hc269.symm, hc276.symm⟩ | exact hc269 hB182.1.symm | exact hc276 hB182.2.symm
      · refine Go.via (S' := T142.setTop (mkF m 266 #[.val (.int p1), .val (.int p2), .val (.long q3), .second, .val (.long q4), .second, .val (.int p5), .val (.int p6), .val (.int ii), .val (.long ss), .second, .val (.ref b1), .val (.ref nm2), .val (.ref va), .val (.ref vb), .val (.int (((p6.toUInt32 >>> ((3 : Int32) &&& 31).toUInt32).toInt32) &&& (3 : Int32))), .unset, .unset, .unset, .unset] [])) (fun _ k => XS.icmpYes X142.here hx rfl (pc0 := 247) (pc' := 266) rfl (hb hby at_247) rfl (feq hc247).2 (by decide) (by decide) k) ?_
        refine Go.via (S' := T142.setTop (mkF m 267 #[.val (.int p1), .val (.int p2), .val (.long q3), .second, .val (.long q4), .second, .val (.int p5), .val (.int p6), .val (.int ii), .val (.long ss), .second, .val (.ref b1), .val (.ref nm2), .val (.ref va), .val (.ref vb), .val (.int (((p6.toUInt32 >>> ((3 : Int32) &&& 31).toUInt32).toInt32) &&& (3 : Int32))), .unset, .unset, .unset, .unset] [(.int p1)])) (fun _ k => XS.iloadN X142.here hx rfl (hb hby at_266) rfl k) ?_
        refine Go.via (S' := T142.setTop (mkF m 269 #[.val (.int p1), .val (.int p2), .val (.long q3), .second, .val (.long q4), .second, .val (.int p5), .val (.int p6), .val (.int ii), .val (.long ss), .second, .val (.ref b1), .val (.ref nm2), .val (.ref va), .val (.ref vb), .val (.int (((p6.toUInt32 >>> ((3 : Int32) &&& 31).toUInt32).toInt32) &&& (3 : Int32))), .unset, .unset, .unset, .unset] [(.int ii), (.int p1)])) (fun _ k => XS.iload X142.here hx rfl (hb hby at_267) rfl k) ?_
        rcases Decidable.em (p1 = ii) with hc269 | hc269
        · refine Go.via (S' := T142.setTop (mkF m 272 #[.val (.int p1), .val (.int p2), .val (.long q3), .second, .val (.long q4), .second, .val (.int p5), .val (.int p6), .val (.int ii), .val (.long ss), .second, .val (.ref b1), .val (.ref nm2), .val (.ref va), .val (.ref vb), .val (.int (((p6.toUInt32 >>> ((3 : Int32) &&& 31).toUInt32).toInt32) &&& (3 : Int32))), .unset, .unset, .unset, .unset] [])) (fun _ k => XS.icmpNo X142.here hx rfl (hb hby at_269) rfl (teq hc269).2 k) ?_
          refine Go.via (S' := T142.setTop (mkF m 273 #[.val (.int p1), .val (.int p2), .val (.long q3), .second, .val (.long q4), .second, .val (.int p5), .val (.int p6), .val (.int ii), .val (.long ss), .second, .val (.ref b1), .val (.ref nm2), .val (.ref va), .val (.ref vb), .val (.int (((p6.toUInt32 >>> ((3 : Int32) &&& 31).toUInt32).toInt32) &&& (3 : Int32))), .unset, .unset, .unset, .unset] [(.long q3)])) (fun _ k => XS.lloadN X142.here hx rfl (hb hby at_272) rfl k) ?_
          refine Go.via (S' := T142.setTop (mkF m 275 #[.val (.int p1), .val (.int p2), .val (.long q3), .second, .val (.long q4), .second, .val (.int p5), .val (.int p6), .val (.int ii), .val (.long ss), .second, .val (.ref b1), .val (.ref nm2), .val (.ref va), .val (.ref vb), .val (.int (((p6.toUInt32 >>> ((3 : Int32) &&& 31).toUInt32).toInt32) &&& (3 : Int32))), .unset, .unset, .unset, .unset] [(.long ss), (.long q3)])) (fun _ k => XS.lload X142.here hx rfl (hb hby at_273) rfl k) ?_
          refine Go.via (S' := T142.setTop (mkF m 276 #[.val (.int p1), .val (.int p2), .val (.long q3), .second, .val (.long q4), .second, .val (.int p5), .val (.int p6), .val (.int ii), .val (.long ss), .second, .val (.ref b1), .val (.ref nm2), .val (.ref va), .val (.ref vb), .val (.int (((p6.toUInt32 >>> ((3 : Int32) &&& 31).toUInt32).toInt32) &&& (3 : Int32))), .unset, .unset, .unset, .unset] [(.int (lcmpW q3 ss))])) (fun _ k => XS.lcmp X142.here hx rfl (hb hby at_275) rfl k) ?_
          rcases Decidable.em (q3 = ss) with hc276 | hc276
          · refine Go.via (S' := T142.setTop (mkF m 279 #[.val (.int p1), .val (.int p2), .val (.long q3), .second, .val (.long q4), .second, .val (.int p5), .val (.int p6), .val (.int ii), .val (.long ss), .second, .val (.ref b1), .val (.ref nm2), .val (.ref va), .val (.ref vb), .val (.int (((p6.toUInt32 >>> ((3 : Int32) &&& 31).toUInt32).toInt32) &&& (3 : Int32))), .unset, .unset, .unset, .unset] [])) (fun _ k => XS.ifNo X142.here hx rfl (hb hby at_276) rfl ((if0 _ _).trans (teq (own_lc5 hc276)).2) k) ?_
            refine Go.via (S' := T142.setTop (mkF m 280 #[.val (.int p1), .val (.int p2), .val (.long q3), .second, .val (.long q4), .second, .val (.int p5), .val (.int p6), .val (.int ii), .val (.long ss), .second, .val (.ref b1), .val (.ref nm2), .val (.ref va), .val (.ref vb), .val (.int (((p6.toUInt32 >>> ((3 : Int32) &&& 31).toUInt32).toInt32) &&& (3 : Int32))), .unset, .unset, .unset, .unset] [(.int (1 : Int32))])) (fun _ k => XS.iconst X142.here hx rfl (hb hby at_279) k) ?_
            refine Go.via (S' := T142.setTop (mkF m 284 #[.val (.int p1), .val (.int p2), .val (.long q3), .second, .val (.long q4), .second, .val (.int p5), .val (.int p6), .val (.int ii), .val (.long ss), .second, .val (.ref b1), .val (.ref nm2), .val (.ref va), .val (.ref vb), .val (.int (((p6.toUInt32 >>> ((3 : Int32) &&& 31).toUInt32).toInt32) &&& (3 : Int32))), .unset, .unset, .unset, .unset] [(.int (1 : Int32))])) (fun _ k => XS.goto X142.here hx rfl (pc0 := 280) (pc' := 284) rfl (hb hby at_280) (by decide) (by decide) k) ?_
            refine Go.via (S' := T142.setTop (mkF m 286 #[.val (.int p1), .val (.int p2), .val (.long q3), .second, .val (.long q4), .second, .val (.int p5), .val (.int p6), .val (.int ii), .val (.long ss), .second, .val (.ref b1), .val (.ref nm2), .val (.ref va), .val (.ref vb), .val (.int (((p6.toUInt32 >>> ((3 : Int32) &&& 31).toUInt32).toInt32) &&& (3 : Int32))), .unset, .val (.int (1 : Int32)), .unset, .unset] [])) (fun _ k => XS.istore X142.here hx rfl (hb hby at_284) rfl (l' := #[.val (.int p1), .val (.int p2), .val (.long q3), .second, .val (.long q4), .second, .val (.int p5), .val (.int p6), .val (.int ii), .val (.long ss), .second, .val (.ref b1), .val (.ref nm2), .val (.ref va), .val (.ref vb), .val (.int (((p6.toUInt32 >>> ((3 : Int32) &&& 31).toUInt32).toInt32) &&& (3 : Int32))), .unset, .val (.int (1 : Int32)), .unset, .unset]) rfl k) ?_
            refine Go.via (S' := T142.setTop (mkF m 288 #[.val (.int p1), .val (.int p2), .val (.long q3), .second, .val (.long q4), .second, .val (.int p5), .val (.int p6), .val (.int ii), .val (.long ss), .second, .val (.ref b1), .val (.ref nm2), .val (.ref va), .val (.ref vb), .val (.int (((p6.toUInt32 >>> ((3 : Int32) &&& 31).toUInt32).toInt32) &&& (3 : Int32))), .unset, .val (.int (1 : Int32)), .unset, .unset] [(.ref vb)])) (fun _ k => XS.aload X142.here hx rfl (hb hby at_286) rfl rfl k) ?_
            refine Go.via (S' := T142.setTop (mkF m 290 #[.val (.int p1), .val (.int p2), .val (.long q3), .second, .val (.long q4), .second, .val (.int p5), .val (.int p6), .val (.int ii), .val (.long ss), .second, .val (.ref b1), .val (.ref nm2), .val (.ref va), .val (.ref vb), .val (.int (((p6.toUInt32 >>> ((3 : Int32) &&& 31).toUInt32).toInt32) &&& (3 : Int32))), .unset, .val (.int (1 : Int32)), .val (.ref vb), .unset] [])) (fun _ k => XS.astore X142.here hx rfl (hb hby at_288) rfl rfl (l' := #[.val (.int p1), .val (.int p2), .val (.long q3), .second, .val (.long q4), .second, .val (.int p5), .val (.int p6), .val (.int ii), .val (.long ss), .second, .val (.ref b1), .val (.ref nm2), .val (.ref va), .val (.ref vb), .val (.int (((p6.toUInt32 >>> ((3 : Int32) &&& 31).toUInt32).toInt32) &&& (3 : Int32))), .unset, .val (.int (1 : Int32)), .val (.ref vb), .unset]) rfl k) ?_
            refine Go.via (S' := T142.setTop (mkF m 292 #[.val (.int p1), .val (.int p2), .val (.long q3), .second, .val (.long q4), .second, .val (.int p5), .val (.int p6), .val (.int ii), .val (.long ss), .second, .val (.ref b1), .val (.ref nm2), .val (.ref va), .val (.ref vb), .val (.int (((p6.toUInt32 >>> ((3 : Int32) &&& 31).toUInt32).toInt32) &&& (3 : Int32))), .unset, .val (.int (1 : Int32)), .val (.ref vb), .unset] [(.ref va)])) (fun _ k => XS.aload X142.here hx rfl (hb hby at_290) rfl rfl k) ?_
            refine Go.via (S' := T142.setTop (mkF m 294 #[.val (.int p1), .val (.int p2), .val (.long q3), .second, .val (.long q4), .second, .val (.int p5), .val (.int p6), .val (.int ii), .val (.long ss), .second, .val (.ref b1), .val (.ref nm2), .val (.ref va), .val (.ref vb), .val (.int (((p6.toUInt32 >>> ((3 : Int32) &&& 31).toUInt32).toInt32) &&& (3 : Int32))), .unset, .val (.int (1 : Int32)), .val (.ref vb), .val (.ref va)] [])) (fun _ k => XS.astore X142.here hx rfl (hb hby at_292) rfl rfl (l' := #[.val (.int p1), .val (.int p2), .val (.long q3), .second, .val (.long q4), .second, .val (.int p5), .val (.int p6), .val (.int ii), .val (.long ss), .second, .val (.ref b1), .val (.ref nm2), .val (.ref va), .val (.ref vb), .val (.int (((p6.toUInt32 >>> ((3 : Int32) &&& 31).toUInt32).toInt32) &&& (3 : Int32))), .unset, .val (.int (1 : Int32)), .val (.ref vb), .val (.ref va)]) rfl k) ?_
            refine Go.via (S' := T142.setTop (mkF m 296 #[.val (.int p1), .val (.int p2), .val (.long q3), .second, .val (.long q4), .second, .val (.int p5), .val (.int p6), .val (.int ii), .val (.long ss), .second, .val (.ref b1), .val (.ref nm2), .val (.ref va), .val (.ref vb), .val (.int (((p6.toUInt32 >>> ((3 : Int32) &&& 31).toUInt32).toInt32) &&& (3 : Int32))), .unset, .val (.int (1 : Int32)), .val (.ref vb), .val (.ref va)] [(.ref va)])) (fun _ k => XS.aload X142.here hx rfl (hb hby at_294) rfl rfl k) ?_
            refine Go.via (S' := T142.setTop (mkF m 298 #[.val (.int p1), .val (.int p2), .val (.long q3), .second, .val (.long q4), .second, .val (.int p5), .val (.int p6), .val (.int ii), .val (.long ss), .second, .val (.ref b1), .val (.ref nm2), .val (.ref va), .val (.ref vb), .val (.int (((p6.toUInt32 >>> ((3 : Int32) &&& 31).toUInt32).toInt32) &&& (3 : Int32))), .unset, .val (.int (1 : Int32)), .val (.ref vb), .val (.ref va)] [(.ref vb), (.ref va)])) (fun _ k => XS.aload X142.here hx rfl (hb hby at_296) rfl rfl k) ?_
            obtain ⟨cq184, kq184, q184a, q184b, q184c⟩ := isOf hZ e142 fk142_1
            obtain ⟨_, _, ⟨T184, L184, k184, n184⟩, -, X184, ⟨Lc184, hQ184, l184, y184, z184⟩, st184⟩ := X142.virtualBack hx (y := (⟨"com/example/covenant/covenant/lang/Variable", "equals", "(Ljava/lang/Object;)Z"⟩ : MethodName)) (z := (⟨"com/example/covenant/covenant/lang/Variable", "equals", "(Ljava/lang/Object;)Z"⟩ : MethodName)) hown (mvT hZ (hw _ (List.mem_of_getElem? (i := 52) rfl))) (mvT hZ (hw _ (List.mem_of_getElem? (i := 53) rfl))) (notFace_of_selects (args := #[]) (mvT hZ (hw _ (List.mem_of_getElem? (i := 55) rfl)))) (mvT hZ (hw _ (List.mem_of_getElem? (i := 55) rfl))) (mvT hZ (hw _ (List.mem_of_getElem? (i := 54) rfl))) (by decide) (backOf (W := 0) (rm10 l Z a0 hw [] va vb p1 ii q3 ss h142 n0 z142 fk142_2 fk142_3 fn142_0 fn142_1 fn142_2) hZ (hw _ (List.mem_of_getElem? (i := 56) rfl)) (hw _ (List.mem_of_getElem? (i := 32) rfl)) (by decide) (by decide)) q184a q184c (g := (mkF m 298 #[.val (.int p1), .val (.int p2), .val (.long q3), .second, .val (.long q4), .second, .val (.int p5), .val (.int p6), .val (.int ii), .val (.long ss), .second, .val (.ref b1), .val (.ref nm2), .val (.ref va), .val (.ref vb), .val (.int (((p6.toUInt32 >>> ((3 : Int32) &&& 31).toUInt32).toInt32) &&& (3 : Int32))), .unset, .val (.int (1 : Int32)), .val (.ref vb), .val (.ref va)] [(.ref vb), (.ref va)])) rfl (by rw [hml]; rfl) (Steps.refl _) (argsL := [(.ref vb)]) (rest := []) (lenOf pd_4 rfl) rfl (by show 2 * 0 + _ ≤ _; exact Nat.le_of_eq rfl) (hb hby at_298) (fun _ _ => ⟨rfl, e142, (by decide : 10 + 0 ≤ _), (by decide : 30 + 0 ≤ _)⟩)
            dsimp only [Pt.U, Pt.locs, Pt.cells, Pt.slots] at X184 l184 y184 z184 st184 hQ184
            subst l184 y184 z184
            obtain ⟨r184, rfl, N184q, e184, hr184⟩ := hQ184
            have N185 := Fr.app N142 N184q
            refine Go.via (S' := T184.setTop (mkF m 301 #[.val (.int p1), .val (.int p2), .val (.long q3), .second, .val (.long q4), .second, .val (.int p5), .val (.int p6), .val (.int ii), .val (.long ss), .second, .val (.ref b1), .val (.ref nm2), .val (.ref va), .val (.ref vb), .val (.int (((p6.toUInt32 >>> ((3 : Int32) &&& 31).toUInt32).toInt32) &&& (3 : Int32))), .unset, .val (.int (1 : Int32)), .val (.ref vb), .val (.ref va)] [(.int r184)])) (fun _ k => st184.trans k) ?_
            rcases hr184 with ⟨rfl, hB184⟩ | ⟨rfl, hB184⟩
            · refine Go.via (S' := T184.setTop (mkF m 303 #[.val (.int p1), .val (.int p2), .val (.long q3), .second, .val (.long q4), .second, .val (.int p5), .val (.int p6), .val (.int ii), .val (.long ss), .second, .val (.ref b1), .val (.ref nm2), .val (.ref va), .val (.ref vb), .val (.int (((p6.toUInt32 >>> ((3 : Int32) &&& 31).toUInt32).toInt32) &&& (3 : Int32))), .unset, .val (.int (1 : Int32)), .val (.ref vb), .val (.ref va)] [(.int (1 : Int32)), (.int (1 : Int32))])) (fun _ k => XS.iload X184.here hx rfl (hb hby at_301) rfl k) ?_
              refine Go.via (S' := T184.setTop (mkF m 306 #[.val (.int p1), .val (.int p2), .val (.long q3), .second, .val (.long q4), .second, .val (.int p5), .val (.int p6), .val (.int ii), .val (.long ss), .second, .val (.ref b1), .val (.ref nm2), .val (.ref va), .val (.ref vb), .val (.int (((p6.toUInt32 >>> ((3 : Int32) &&& 31).toUInt32).toInt32) &&& (3 : Int32))), .unset, .val (.int (1 : Int32)), .val (.ref vb), .val (.ref va)] [])) (fun _ k => XS.icmpNo X184.here hx rfl (hb hby at_303) rfl (teq (by decide)).2 k) ?_
              refine Go.via (S' := T184.setTop (mkF m 308 #[.val (.int p1), .val (.int p2), .val (.long q3), .second, .val (.long q4), .second, .val (.int p5), .val (.int p6), .val (.int ii), .val (.long ss), .second, .val (.ref b1), .val (.ref nm2), .val (.ref va), .val (.ref vb), .val (.int (((p6.toUInt32 >>> ((3 : Int32) &&& 31).toUInt32).toInt32) &&& (3 : Int32))), .unset, .val (.int (1 : Int32)), .val (.ref vb), .val (.ref va)] [(.ref vb)])) (fun _ k => XS.aload X184.here hx rfl (hb hby at_306) rfl rfl k) ?_
              refine Go.via (S' := T184.setTop (mkF m 310 #[.val (.int p1), .val (.int p2), .val (.long q3), .second, .val (.long q4), .second, .val (.int p5), .val (.int p6), .val (.int ii), .val (.long ss), .second, .val (.ref b1), .val (.ref nm2), .val (.ref va), .val (.ref vb), .val (.int (((p6.toUInt32 >>> ((3 : Int32) &&& 31).toUInt32).toInt32) &&& (3 : Int32))), .unset, .val (.int (1 : Int32)), .val (.ref vb), .val (.ref va)] [(.ref va), (.ref vb)])) (fun _ k => XS.aload X184.here hx rfl (hb hby at_308) rfl rfl k) ?_
              obtain ⟨cq186, kq186, q186a, q186b, q186c⟩ := isOf hZ e184 fn142_0
              obtain ⟨_, _, ⟨T186, L186, k186, n186⟩, -, X186, ⟨Lc186, hQ186, l186, y186, z186⟩, st186⟩ := X184.virtualBack hx (y := (⟨"com/example/covenant/covenant/lang/Variable", "equals", "(Ljava/lang/Object;)Z"⟩ : MethodName)) (z := (⟨"com/example/covenant/covenant/lang/Variable", "equals", "(Ljava/lang/Object;)Z"⟩ : MethodName)) hown (mvT hZ (hw _ (List.mem_of_getElem? (i := 52) rfl))) (mvT hZ (hw _ (List.mem_of_getElem? (i := 53) rfl))) (notFace_of_selects (args := #[]) (mvT hZ (hw _ (List.mem_of_getElem? (i := 55) rfl)))) (mvT hZ (hw _ (List.mem_of_getElem? (i := 55) rfl))) (mvT hZ (hw _ (List.mem_of_getElem? (i := 54) rfl))) (by decide) (backOf (W := 0) (rm10 l Z a0 hw [] vb va ii p1 ss q3 h142 n0 z142 fn142_1 fn142_2 fk142_1 fk142_2 fk142_3) hZ (hw _ (List.mem_of_getElem? (i := 56) rfl)) (hw _ (List.mem_of_getElem? (i := 32) rfl)) (by decide) (by decide)) q186a q186c (g := (mkF m 310 #[.val (.int p1), .val (.int p2), .val (.long q3), .second, .val (.long q4), .second, .val (.int p5), .val (.int p6), .val (.int ii), .val (.long ss), .second, .val (.ref b1), .val (.ref nm2), .val (.ref va), .val (.ref vb), .val (.int (((p6.toUInt32 >>> ((3 : Int32) &&& 31).toUInt32).toInt32) &&& (3 : Int32))), .unset, .val (.int (1 : Int32)), .val (.ref vb), .val (.ref va)] [(.ref va), (.ref vb)])) rfl (by rw [hml]; rfl) (Steps.refl _) (argsL := [(.ref va)]) (rest := []) (lenOf pd_4 rfl) rfl (by show 2 * 0 + _ ≤ _; exact Nat.le_of_eq rfl) (hb hby at_310) (fun _ _ => ⟨rfl, e184, (by decide : 10 + 0 ≤ _), (by decide : 30 + 0 ≤ _)⟩)
              dsimp only [Pt.U, Pt.locs, Pt.cells, Pt.slots] at X186 l186 y186 z186 st186 hQ186
              subst l186 y186 z186
              obtain ⟨r186, rfl, N186q, e186, hr186⟩ := hQ186
              have N187 := Fr.app N185 N186q
              refine Go.via (S' := T186.setTop (mkF m 313 #[.val (.int p1), .val (.int p2), .val (.long q3), .second, .val (.long q4), .second, .val (.int p5), .val (.int p6), .val (.int ii), .val (.long ss), .second, .val (.ref b1), .val (.ref nm2), .val (.ref va), .val (.ref vb), .val (.int (((p6.toUInt32 >>> ((3 : Int32) &&& 31).toUInt32).toInt32) &&& (3 : Int32))), .unset, .val (.int (1 : Int32)), .val (.ref vb), .val (.ref va)] [(.int r186)])) (fun _ k => st186.trans k) ?_
              rcases hr186 with ⟨rfl, hB186⟩ | ⟨rfl, hB186⟩
              · refine Go.via (S' := T186.setTop (mkF m 315 #[.val (.int p1), .val (.int p2), .val (.long q3), .second, .val (.long q4), .second, .val (.int p5), .val (.int p6), .val (.int ii), .val (.long ss), .second, .val (.ref b1), .val (.ref nm2), .val (.ref va), .val (.ref vb), .val (.int (((p6.toUInt32 >>> ((3 : Int32) &&& 31).toUInt32).toInt32) &&& (3 : Int32))), .unset, .val (.int (1 : Int32)), .val (.ref vb), .val (.ref va)] [(.int (1 : Int32)), (.int (1 : Int32))])) (fun _ k => XS.iload X186.here hx rfl (hb hby at_313) rfl k) ?_
                refine Go.via (S' := T186.setTop (mkF m 318 #[.val (.int p1), .val (.int p2), .val (.long q3), .second, .val (.long q4), .second, .val (.int p5), .val (.int p6), .val (.int ii), .val (.long ss), .second, .val (.ref b1), .val (.ref nm2), .val (.ref va), .val (.ref vb), .val (.int (((p6.toUInt32 >>> ((3 : Int32) &&& 31).toUInt32).toInt32) &&& (3 : Int32))), .unset, .val (.int (1 : Int32)), .val (.ref vb), .val (.ref va)] [])) (fun _ k => XS.icmpNo X186.here hx rfl (hb hby at_315) rfl (teq (by decide)).2 k) ?_
                refine Go.via (S' := T186.setTop (mkF m 319 #[.val (.int p1), .val (.int p2), .val (.long q3), .second, .val (.long q4), .second, .val (.int p5), .val (.int p6), .val (.int ii), .val (.long ss), .second, .val (.ref b1), .val (.ref nm2), .val (.ref va), .val (.ref vb), .val (.int (((p6.toUInt32 >>> ((3 : Int32) &&& 31).toUInt32).toInt32) &&& (3 : Int32))), .unset, .val (.int (1 : Int32)), .val (.ref vb), .val (.ref va)] [(.int (1 : Int32))])) (fun _ k => XS.iconst X186.here hx rfl (hb hby at_318) k) ?_
                refine Go.via (S' := T186.setTop (mkF m 323 #[.val (.int p1), .val (.int p2), .val (.long q3), .second, .val (.long q4), .second, .val (.int p5), .val (.int p6), .val (.int ii), .val (.long ss), .second, .val (.ref b1), .val (.ref nm2), .val (.ref va), .val (.ref vb), .val (.int (((p6.toUInt32 >>> ((3 : Int32) &&& 31).toUInt32).toInt32) &&& (3 : Int32))), .unset, .val (.int (1 : Int32)), .val (.ref vb), .val (.ref va)] [(.int (1 : Int32))])) (fun _ k => XS.goto X186.here hx rfl (pc0 := 319) (pc' := 323) rfl (hb hby at_319) (by decide) (by decide) k) ?_
                refine Go.via (S' := T186.setTop (mkF m 325 #[.val (.int p1), .val (.int p2), .val (.long q3), .second, .val (.long q4), .second, .val (.int p5), .val (.int p6), .val (.int ii), .val (.long ss), .second, .val (.ref b1), .val (.ref nm2), .val (.ref va), .val (.ref vb), .val (.int (((p6.toUInt32 >>> ((3 : Int32) &&& 31).toUInt32).toInt32) &&& (3 : Int32))), .val (.int (1 : Int32)), .val (.int (1 : Int32)), .val (.ref vb), .val (.ref va)] [])) (fun _ k => XS.istore X186.here hx rfl (hb hby at_323) rfl (l' := #[.val (.int p1), .val (.int p2), .val (.long q3), .second, .val (.long q4), .second, .val (.int p5), .val (.int p6), .val (.int ii), .val (.long ss), .second, .val (.ref b1), .val (.ref nm2), .val (.ref va), .val (.ref vb), .val (.int (((p6.toUInt32 >>> ((3 : Int32) &&& 31).toUInt32).toInt32) &&& (3 : Int32))), .val (.int (1 : Int32)), .val (.int (1 : Int32)), .val (.ref vb), .val (.ref va)]) rfl k) ?_
                refine Go.via (S' := T186.setTop (mkF m 327 #[.val (.int p1), .val (.int p2), .val (.long q3), .second, .val (.long q4), .second, .val (.int p5), .val (.int p6), .val (.int ii), .val (.long ss), .second, .val (.ref b1), .val (.ref nm2), .val (.ref va), .val (.ref vb), .val (.int (((p6.toUInt32 >>> ((3 : Int32) &&& 31).toUInt32).toInt32) &&& (3 : Int32))), .val (.int (1 : Int32)), .val (.int (1 : Int32)), .val (.ref vb), .val (.ref va)] [(.int (1 : Int32))])) (fun _ k => XS.iload X186.here hx rfl (hb hby at_325) rfl k) ?_
                exact Go.retB X186 hx (BodyLoose.notSynchronized Bd) Bd.returns (hb hby at_327) rfl (by rw [e186]; exact ⟨rfl, N187⟩) (by decide) (by decide)
              · refine Go.via (S' := T186.setTop (mkF m 315 #[.val (.int p1), .val (.int p2), .val (.long q3), .second, .val (.long q4), .second, .val (.int p5), .val (.int p6), .val (.int ii), .val (.long ss), .second, .val (.ref b1), .val (.ref nm2), .val (.ref va), .val (.ref vb), .val (.int (((p6.toUInt32 >>> ((3 : Int32) &&& 31).toUInt32).toInt32) &&& (3 : Int32))), .unset, .val (.int (1 : Int32)), .val (.ref vb), .val (.ref va)] [(.int (1 : Int32)), (.int (0 : Int32))])) (fun _ k => XS.iload X186.here hx rfl (hb hby at_313) rfl k) ?_
                refine Go.via (S' := T186.setTop (mkF m 322 #[.val (.int p1), .val (.int p2), .val (.long q3), .second, .val (.long q4), .second, .val (.int p5), .val (.int p6), .val (.int ii), .val (.long ss), .second, .val (.ref b1), .val (.ref nm2), .val (.ref va), .val (.ref vb), .val (.int (((p6.toUInt32 >>> ((3 : Int32) &&& 31).toUInt32).toInt32) &&& (3 : Int32))), .unset, .val (.int (1 : Int32)), .val (.ref vb), .val (.ref va)] [])) (fun _ k => XS.icmpYes X186.here hx rfl (pc0 := 315) (pc' := 322) rfl (hb hby at_315) rfl (feq (by decide)).2 (by decide) (by decide) k) ?_
                refine Go.via (S' := T186.setTop (mkF m 323 #[.val (.int p1), .val (.int p2), .val (.long q3), .second, .val (.long q4), .second, .val (.int p5), .val (.int p6), .val (.int ii), .val (.long ss), .second, .val (.ref b1), .val (.ref nm2), .val (.ref va), .val (.ref vb), .val (.int (((p6.toUInt32 >>> ((3 : Int32) &&& 31).toUInt32).toInt32) &&& (3 : Int32))), .unset, .val (.int (1 : Int32)), .val (.ref vb), .val (.ref va)] [(.int (0 : Int32))])) (fun _ k => XS.iconst X186.here hx rfl (hb hby at_322) k) ?_
                refine Go.via (S' := T186.setTop (mkF m 325 #[.val (.int p1), .val (.int p2), .val (.long q3), .second, .val (.long q4), .second, .val (.int p5), .val (.int p6), .val (.int ii), .val (.long ss), .second, .val (.ref b1), .val (.ref nm2), .val (.ref va), .val (.ref vb), .val (.int (((p6.toUInt32 >>> ((3 : Int32) &&& 31).toUInt32).toInt32) &&& (3 : Int32))), .val (.int (0 : Int32)), .val (.int (1 : Int32)), .val (.ref vb), .val (.ref va)] [])) (fun _ k => XS.istore X186.here hx rfl (hb hby at_323) rfl (l' := #[.val (.int p1), .val (.int p2), .val (.long q3), .second, .val (.long q4), .second, .val (.int p5), .val (.int p6), .val (.int ii), .val (.long ss), .second, .val (.ref b1), .val (.ref nm2), .val (.ref va), .val (.ref vb), .val (.int (((p6.toUInt32 >>> ((3 : Int32) &&& 31).toUInt32).toInt32) &&& (3 : Int32))), .val (.int (0 : Int32)), .val (.int (1 : Int32)), .val (.ref vb), .val (.ref va)]) rfl k) ?_
                exfalso
                first | exact hB186 ⟨rfl, rfl⟩ | exact hB186 ⟨hc269, hc276⟩ | exact hc269 hB186.1 | exact hc276 hB186.2 | exact hB186 ⟨hc269.symm, hc276.symm⟩ | exact hc269 hB186.1.symm | exact hc276 hB186.2.symm
            · refine Go.via (S' := T184.setTop (mkF m 303 #[.val (.int p1), .val (.int p2), .val (.long q3), .second, .val (.long q4), .second, .val (.int p5), .val (.int p6), .val (.int ii), .val (.long ss), .second, .val (.ref b1), .val (.ref nm2), .val (.ref va), .val (.ref vb), .val (.int (((p6.toUInt32 >>> ((3 : Int32) &&& 31).toUInt32).toInt32) &&& (3 : Int32))), .unset, .val (.int (1 : Int32)), .val (.ref vb), .val (.ref va)] [(.int (1 : Int32)), (.int (0 : Int32))])) (fun _ k => XS.iload X184.here hx rfl (hb hby at_301) rfl k) ?_
              refine Go.via (S' := T184.setTop (mkF m 322 #[.val (.int p1), .val (.int p2), .val (.long q3), .second, .val (.long q4), .second, .val (.int p5), .val (.int p6), .val (.int ii), .val (.long ss), .second, .val (.ref b1), .val (.ref nm2), .val (.ref va), .val (.ref vb), .val (.int (((p6.toUInt32 >>> ((3 : Int32) &&& 31).toUInt32).toInt32) &&& (3 : Int32))), .unset, .val (.int (1 : Int32)), .val (.ref vb), .val (.ref va)] [])) (fun _ k => XS.icmpYes X184.here hx rfl (pc0 := 303) (pc' := 322) rfl (hb hby at_303) rfl (feq (by decide)).2 (by decide) (by decide) k) ?_
              refine Go.via (S' := T184.setTop (mkF m 323 #[.val (.int p1), .val (.int p2), .val (.long q3), .second, .val (.long q4), .second, .val (.int p5), .val (.int p6), .val (.int ii), .val (.long ss), .second, .val (.ref b1), .val (.ref nm2), .val (.ref va), .val (.ref vb), .val (.int (((p6.toUInt32 >>> ((3 : Int32) &&& 31).toUInt32).toInt32) &&& (3 : Int32))), .unset, .val (.int (1 : Int32)), .val (.ref vb), .val (.ref va)] [(.int (0 : Int32))])) (fun _ k => XS.iconst X184.here hx rfl (hb hby at_322) k) ?_
              refine Go.via (S' := T184.setTop (mkF m 325 #[.val (.int p1), .val (.int p2), .val (.long q3), .second, .val (.long q4), .second, .val (.int p5), .val (.int p6), .val (.int ii), .val (.long ss), .second, .val (.ref b1), .val (.ref nm2), .val (.ref va), .val (.ref vb), .val (.int (((p6.toUInt32 >>> ((3 : Int32) &&& 31).toUInt32).toInt32) &&& (3 : Int32))), .val (.int (0 : Int32)), .val (.int (1 : Int32)), .val (.ref vb), .val (.ref va)] [])) (fun _ k => XS.istore X184.here hx rfl (hb hby at_323) rfl (l' := #[.val (.int p1), .val (.int p2), .val (.long q3), .second, .val (.long q4), .second, .val (.int p5), .val (.int p6), .val (.int ii), .val (.long ss), .second, .val (.ref b1), .val (.ref nm2), .val (.ref va), .val (.ref vb), .val (.int (((p6.toUInt32 >>> ((3 : Int32) &&& 31).toUInt32).toInt32) &&& (3 : Int32))), .val (.int (0 : Int32)), .val (.int (1 : Int32)), .val (.ref vb), .val (.ref va)]) rfl k) ?_
              exfalso
              first | exact hB184 ⟨rfl, rfl⟩ | exact hB184 ⟨hc269, hc276⟩ | exact hc269 hB184.1 | exact hc276 hB184.2 | exact hB184 ⟨hc269.symm, hc276.symm⟩ | exact hc269 hB184.1.symm | exact hc276 hB184.2.symm
          · refine Go.via (S' := T142.setTop (mkF m 283 #[.val (.int p1), .val (.int p2), .val (.long q3), .second, .val (.long q4), .second, .val (.int p5), .val (.int p6), .val (.int ii), .val (.long ss), .second, .val (.ref b1), .val (.ref nm2), .val (.ref va), .val (.ref vb), .val (.int (((p6.toUInt32 >>> ((3 : Int32) &&& 31).toUInt32).toInt32) &&& (3 : Int32))), .unset, .unset, .unset, .unset] [])) (fun _ k => XS.ifYes X142.here hx rfl (pc0 := 276) (pc' := 283) rfl (hb hby at_276) rfl ((if0 _ _).trans (feq (own_lc6 hc276)).2) (by decide) (by decide) k) ?_
            refine Go.via (S' := T142.setTop (mkF m 284 #[.val (.int p1), .val (.int p2), .val (.long q3), .second, .val (.long q4), .second, .val (.int p5), .val (.int p6), .val (.int ii), .val (.long ss), .second, .val (.ref b1), .val (.ref nm2), .val (.ref va), .val (.ref vb), .val (.int (((p6.toUInt32 >>> ((3 : Int32) &&& 31).toUInt32).toInt32) &&& (3 : Int32))), .unset, .unset, .unset, .unset] [(.int (0 : Int32))])) (fun _ k => XS.iconst X142.here hx rfl (hb hby at_283) k) ?_
            refine Go.via (S' := T142.setTop (mkF m 286 #[.val (.int p1), .val (.int p2), .val (.long q3), .second, .val (.long q4), .second, .val (.int p5), .val (.int p6), .val (.int ii), .val (.long ss), .second, .val (.ref b1), .val (.ref nm2), .val (.ref va), .val (.ref vb), .val (.int (((p6.toUInt32 >>> ((3 : Int32) &&& 31).toUInt32).toInt32) &&& (3 : Int32))), .unset, .val (.int (0 : Int32)), .unset, .unset] [])) (fun _ k => XS.istore X142.here hx rfl (hb hby at_284) rfl (l' := #[.val (.int p1), .val (.int p2), .val (.long q3), .second, .val (.long q4), .second, .val (.int p5), .val (.int p6), .val (.int ii), .val (.long ss), .second, .val (.ref b1), .val (.ref nm2), .val (.ref va), .val (.ref vb), .val (.int (((p6.toUInt32 >>> ((3 : Int32) &&& 31).toUInt32).toInt32) &&& (3 : Int32))), .unset, .val (.int (0 : Int32)), .unset, .unset]) rfl k) ?_
            refine Go.via (S' := T142.setTop (mkF m 288 #[.val (.int p1), .val (.int p2), .val (.long q3), .second, .val (.long q4), .second, .val (.int p5), .val (.int p6), .val (.int ii), .val (.long ss), .second, .val (.ref b1), .val (.ref nm2), .val (.ref va), .val (.ref vb), .val (.int (((p6.toUInt32 >>> ((3 : Int32) &&& 31).toUInt32).toInt32) &&& (3 : Int32))), .unset, .val (.int (0 : Int32)), .unset, .unset] [(.ref vb)])) (fun _ k => XS.aload X142.here hx rfl (hb hby at_286) rfl rfl k) ?_
            refine Go.via (S' := T142.setTop (mkF m 290 #[.val (.int p1), .val (.int p2), .val (.long q3), .second, .val (.long q4), .second, .val (.int p5), .val (.int p6), .val (.int ii), .val (.long ss), .second, .val (.ref b1), .val (.ref nm2), .val (.ref va), .val (.ref vb), .val (.int (((p6.toUInt32 >>> ((3 : Int32) &&& 31).toUInt32).toInt32) &&& (3 : Int32))), .unset, .val (.int (0 : Int32)), .val (.ref vb), .unset] [])) (fun _ k => XS.astore X142.here hx rfl (hb hby at_288) rfl rfl (l' := #[.val (.int p1), .val (.int p2), .val (.long q3), .second, .val (.long q4), .second, .val (.int p5), .val (.int p6), .val (.int ii), .val (.long ss), .second, .val (.ref b1), .val (.ref nm2), .val (.ref va), .val (.ref vb), .val (.int (((p6.toUInt32 >>> ((3 : Int32) &&& 31).toUInt32).toInt32) &&& (3 : Int32))), .unset, .val (.int (0 : Int32)), .val (.ref vb), .unset]) rfl k) ?_
            refine Go.via (S' := T142.setTop (mkF m 292 #[.val (.int p1), .val (.int p2), .val (.long q3), .second, .val (.long q4), .second, .val (.int p5), .val (.int p6), .val (.int ii), .val (.long ss), .second, .val (.ref b1), .val (.ref nm2), .val (.ref va), .val (.ref vb), .val (.int (((p6.toUInt32 >>> ((3 : Int32) &&& 31).toUInt32).toInt32) &&& (3 : Int32))), .unset, .val (.int (0 : Int32)), .val (.ref vb), .unset] [(.ref va)])) (fun _ k => XS.aload X142.here hx rfl (hb hby at_290) rfl rfl k) ?_
            refine Go.via (S' := T142.setTop (mkF m 294 #[.val (.int p1), .val (.int p2), .val (.long q3), .second, .val (.long q4), .second, .val (.int p5), .val (.int p6), .val (.int ii), .val (.long ss), .second, .val (.ref b1), .val (.ref nm2), .val (.ref va), .val (.ref vb), .val (.int (((p6.toUInt32 >>> ((3 : Int32) &&& 31).toUInt32).toInt32) &&& (3 : Int32))), .unset, .val (.int (0 : Int32)), .val (.ref vb), .val (.ref va)] [])) (fun _ k => XS.astore X142.here hx rfl (hb hby at_292) rfl rfl (l' := #[.val (.int p1), .val (.int p2), .val (.long q3), .second, .val (.long q4), .second, .val (.int p5), .val (.int p6), .val (.int ii), .val (.long ss), .second, .val (.ref b1), .val (.ref nm2), .val (.ref va), .val (.ref vb), .val (.int (((p6.toUInt32 >>> ((3 : Int32) &&& 31).toUInt32).toInt32) &&& (3 : Int32))), .unset, .val (.int (0 : Int32)), .val (.ref vb), .val (.ref va)]) rfl k) ?_
            refine Go.via (S' := T142.setTop (mkF m 296 #[.val (.int p1), .val (.int p2), .val (.long q3), .second, .val (.long q4), .second, .val (.int p5), .val (.int p6), .val (.int ii), .val (.long ss), .second, .val (.ref b1), .val (.ref nm2), .val (.ref va), .val (.ref vb), .val (.int (((p6.toUInt32 >>> ((3 : Int32) &&& 31).toUInt32).toInt32) &&& (3 : Int32))), .unset, .val (.int (0 : Int32)), .val (.ref vb), .val (.ref va)] [(.ref va)])) (fun _ k => XS.aload X142.here hx rfl (hb hby at_294) rfl rfl k) ?_
            refine Go.via (S' := T142.setTop (mkF m 298 #[.val (.int p1), .val (.int p2), .val (.long q3), .second, .val (.long q4), .second, .val (.int p5), .val (.int p6), .val (.int ii), .val (.long ss), .second, .val (.ref b1), .val (.ref nm2), .val (.ref va), .val (.ref vb), .val (.int (((p6.toUInt32 >>> ((3 : Int32) &&& 31).toUInt32).toInt32) &&& (3 : Int32))), .unset, .val (.int (0 : Int32)), .val (.ref vb), .val (.ref va)] [(.ref vb), (.ref va)])) (fun _ k => XS.aload X142.here hx rfl (hb hby at_296) rfl rfl k) ?_
            obtain ⟨cq188, kq188, q188a, q188b, q188c⟩ := isOf hZ e142 fk142_1
            obtain ⟨_, _, ⟨T188, L188, k188, n188⟩, -, X188, ⟨Lc188, hQ188, l188, y188, z188⟩, st188⟩ := X142.virtualBack hx (y := (⟨"com/example/covenant/covenant/lang/Variable", "equals", "(Ljava/lang/Object;)Z"⟩ : MethodName)) (z := (⟨"com/example/covenant/covenant/lang/Variable", "equals", "(Ljava/lang/Object;)Z"⟩ : MethodName)) hown (mvT hZ (hw _ (List.mem_of_getElem? (i := 52) rfl))) (mvT hZ (hw _ (List.mem_of_getElem? (i := 53) rfl))) (notFace_of_selects (args := #[]) (mvT hZ (hw _ (List.mem_of_getElem? (i := 55) rfl)))) (mvT hZ (hw _ (List.mem_of_getElem? (i := 55) rfl))) (mvT hZ (hw _ (List.mem_of_getElem? (i := 54) rfl))) (by decide) (backOf (W := 0) (rm10 l Z a0 hw [] va vb p1 ii q3 ss h142 n0 z142 fk142_2 fk142_3 fn142_0 fn142_1 fn142_2) hZ (hw _ (List.mem_of_getElem? (i := 56) rfl)) (hw _ (List.mem_of_getElem? (i := 32) rfl)) (by decide) (by decide)) q188a q188c (g := (mkF m 298 #[.val (.int p1), .val (.int p2), .val (.long q3), .second, .val (.long q4), .second, .val (.int p5), .val (.int p6), .val (.int ii), .val (.long ss), .second, .val (.ref b1), .val (.ref nm2), .val (.ref va), .val (.ref vb), .val (.int (((p6.toUInt32 >>> ((3 : Int32) &&& 31).toUInt32).toInt32) &&& (3 : Int32))), .unset, .val (.int (0 : Int32)), .val (.ref vb), .val (.ref va)] [(.ref vb), (.ref va)])) rfl (by rw [hml]; rfl) (Steps.refl _) (argsL := [(.ref vb)]) (rest := []) (lenOf pd_4 rfl) rfl (by show 2 * 0 + _ ≤ _; exact Nat.le_of_eq rfl) (hb hby at_298) (fun _ _ => ⟨rfl, e142, (by decide : 10 + 0 ≤ _), (by decide : 30 + 0 ≤ _)⟩)
            dsimp only [Pt.U, Pt.locs, Pt.cells, Pt.slots] at X188 l188 y188 z188 st188 hQ188
            subst l188 y188 z188
            obtain ⟨r188, rfl, N188q, e188, hr188⟩ := hQ188
            have N189 := Fr.app N142 N188q
            refine Go.via (S' := T188.setTop (mkF m 301 #[.val (.int p1), .val (.int p2), .val (.long q3), .second, .val (.long q4), .second, .val (.int p5), .val (.int p6), .val (.int ii), .val (.long ss), .second, .val (.ref b1), .val (.ref nm2), .val (.ref va), .val (.ref vb), .val (.int (((p6.toUInt32 >>> ((3 : Int32) &&& 31).toUInt32).toInt32) &&& (3 : Int32))), .unset, .val (.int (0 : Int32)), .val (.ref vb), .val (.ref va)] [(.int r188)])) (fun _ k => st188.trans k) ?_
            rcases hr188 with ⟨rfl, hB188⟩ | ⟨rfl, hB188⟩
            · refine Go.via (S' := T188.setTop (mkF m 303 #[.val (.int p1), .val (.int p2), .val (.long q3), .second, .val (.long q4), .second, .val (.int p5), .val (.int p6), .val (.int ii), .val (.long ss), .second, .val (.ref b1), .val (.ref nm2), .val (.ref va), .val (.ref vb), .val (.int (((p6.toUInt32 >>> ((3 : Int32) &&& 31).toUInt32).toInt32) &&& (3 : Int32))), .unset, .val (.int (0 : Int32)), .val (.ref vb), .val (.ref va)] [(.int (0 : Int32)), (.int (1 : Int32))])) (fun _ k => XS.iload X188.here hx rfl (hb hby at_301) rfl k) ?_
              refine Go.via (S' := T188.setTop (mkF m 322 #[.val (.int p1), .val (.int p2), .val (.long q3), .second, .val (.long q4), .second, .val (.int p5), .val (.int p6), .val (.int ii), .val (.long ss), .second, .val (.ref b1), .val (.ref nm2), .val (.ref va), .val (.ref vb), .val (.int (((p6.toUInt32 >>> ((3 : Int32) &&& 31).toUInt32).toInt32) &&& (3 : Int32))), .unset, .val (.int (0 : Int32)), .val (.ref vb), .val (.ref va)] [])) (fun _ k => XS.icmpYes X188.here hx rfl (pc0 := 303) (pc' := 322) rfl (hb hby at_303) rfl (feq (by decide)).2 (by decide) (by decide) k) ?_
              refine Go.via (S' := T188.setTop (mkF m 323 #[.val (.int p1), .val (.int p2), .val (.long q3), .second, .val (.long q4), .second, .val (.int p5), .val (.int p6), .val (.int ii), .val (.long ss), .second, .val (.ref b1), .val (.ref nm2), .val (.ref va), .val (.ref vb), .val (.int (((p6.toUInt32 >>> ((3 : Int32) &&& 31).toUInt32).toInt32) &&& (3 : Int32))), .unset, .val (.int (0 : Int32)), .val (.ref vb), .val (.ref va)] [(.int (0 : Int32))])) (fun _ k => XS.iconst X188.here hx rfl (hb hby at_322) k) ?_
              refine Go.via (S' := T188.setTop (mkF m 325 #[.val (.int p1), .val (.int p2), .val (.long q3), .second, .val (.long q4), .second, .val (.int p5), .val (.int p6), .val (.int ii), .val (.long ss), .second, .val (.ref b1), .val (.ref nm2), .val (.ref va), .val (.ref vb), .val (.int (((p6.toUInt32 >>> ((3 : Int32) &&& 31).toUInt32).toInt32) &&& (3 : Int32))), .val (.int (0 : Int32)), .val (.int (0 : Int32)), .val (.ref vb), .val (.ref va)] [])) (fun _ k => XS.istore X188.here hx rfl (hb hby at_323) rfl (l' := #[.val (.int p1), .val (.int p2), .val (.long q3), .second, .val (.long q4), .second, .val (.int p5), .val (.int p6), .val (.int ii), .val (.long ss), .second, .val (.ref b1), .val (.ref nm2), .val (.ref va), .val (.ref vb), .val (.int (((p6.toUInt32 >>> ((3 : Int32) &&& 31).toUInt32).toInt32) &&& (3 : Int32))), .val (.int (0 : Int32)), .val (.int (0 : Int32)), .val (.ref vb), .val (.ref va)]) rfl k) ?_
              exfalso
              first | exact hB188 ⟨rfl, rfl⟩ | exact hB188 ⟨hc269, hc276⟩ | exact hc269 hB188.1 | exact hc276 hB188.2 | exact hB188 ⟨hc269.symm, hc276.symm⟩ | exact hc269 hB188.1.symm | exact hc276 hB188.2.symm
            · refine Go.via (S' := T188.setTop (mkF m 303 #[.val (.int p1), .val (.int p2), .val (.long q3), .second, .val (.long q4), .second, .val (.int p5), .val (.int p6), .val (.int ii), .val (.long ss), .second, .val (.ref b1), .val (.ref nm2), .val (.ref va), .val (.ref vb), .val (.int (((p6.toUInt32 >>> ((3 : Int32) &&& 31).toUInt32).toInt32) &&& (3 : Int32))), .unset, .val (.int (0 : Int32)), .val (.ref vb), .val (.ref va)] [(.int (0 : Int32)), (.int (0 : Int32))])) (fun _ k => XS.iload X188.here hx rfl (hb hby at_301) rfl k) ?_
              refine Go.via (S' := T188.setTop (mkF m 306 #[.val (.int p1), .val (.int p2), .val (.long q3), .second, .val (.long q4), .second, .val (.int p5), .val (.int p6), .val (.int ii), .val (.long ss), .second, .val (.ref b1), .val (.ref nm2), .val (.ref va), .val (.ref vb), .val (.int (((p6.toUInt32 >>> ((3 : Int32) &&& 31).toUInt32).toInt32) &&& (3 : Int32))), .unset, .val (.int (0 : Int32)), .val (.ref vb), .val (.ref va)] [])) (fun _ k => XS.icmpNo X188.here hx rfl (hb hby at_303) rfl (teq (by decide)).2 k) ?_
              refine Go.via (S' := T188.setTop (mkF m 308 #[.val (.int p1), .val (.int p2), .val (.long q3), .second, .val (.long q4), .second, .val (.int p5), .val (.int p6), .val (.int ii), .val (.long ss), .second, .val (.ref b1), .val (.ref nm2), .val (.ref va), .val (.ref vb), .val (.int (((p6.toUInt32 >>> ((3 : Int32) &&& 31).toUInt32).toInt32) &&& (3 : Int32))), .unset, .val (.int (0 : Int32)), .val (.ref vb), .val (.ref va)] [(.ref vb)])) (fun _ k => XS.aload X188.here hx rfl (hb hby at_306) rfl rfl k) ?_
              refine Go.via (S' := T188.setTop (mkF m 310 #[.val (.int p1), .val (.int p2), .val (.long q3), .second, .val (.long q4), .second, .val (.int p5), .val (.int p6), .val (.int ii), .val (.long ss), .second, .val (.ref b1), .val (.ref nm2), .val (.ref va), .val (.ref vb), .val (.int (((p6.toUInt32 >>> ((3 : Int32) &&& 31).toUInt32).toInt32) &&& (3 : Int32))), .unset, .val (.int (0 : Int32)), .val (.ref vb), .val (.ref va)] [(.ref va), (.ref vb)])) (fun _ k => XS.aload X188.here hx rfl (hb hby at_308) rfl rfl k) ?_
              obtain ⟨cq190, kq190, q190a, q190b, q190c⟩ := isOf hZ e188 fn142_0
              obtain ⟨_, _, ⟨T190, L190, k190, n190⟩, -, X190, ⟨Lc190, hQ190, l190, y190, z190⟩, st190⟩ := X188.virtualBack hx (y := (⟨"com/example/covenant/covenant/lang/Variable", "equals", "(Ljava/lang/Object;)Z"⟩ : MethodName)) (z := (⟨"com/example/covenant/covenant/lang/Variable", "equals", "(Ljava/lang/Object;)Z"⟩ : MethodName)) hown (mvT hZ (hw _ (List.mem_of_getElem? (i := 52) rfl))) (mvT hZ (hw _ (List.mem_of_getElem? (i := 53) rfl))) (notFace_of_selects (args := #[]) (mvT hZ (hw _ (List.mem_of_getElem? (i := 55) rfl)))) (mvT hZ (hw _ (List.mem_of_getElem? (i := 55) rfl))) (mvT hZ (hw _ (List.mem_of_getElem? (i := 54) rfl))) (by decide) (backOf (W := 0) (rm10 l Z a0 hw [] vb va ii p1 ss q3 h142 n0 z142 fn142_1 fn142_2 fk142_1 fk142_2 fk142_3) hZ (hw _ (List.mem_of_getElem? (i := 56) rfl)) (hw _ (List.mem_of_getElem? (i := 32) rfl)) (by decide) (by decide)) q190a q190c (g := (mkF m 310 #[.val (.int p1), .val (.int p2), .val (.long q3), .second, .val (.long q4), .second, .val (.int p5), .val (.int p6), .val (.int ii), .val (.long ss), .second, .val (.ref b1), .val (.ref nm2), .val (.ref va), .val (.ref vb), .val (.int (((p6.toUInt32 >>> ((3 : Int32) &&& 31).toUInt32).toInt32) &&& (3 : Int32))), .unset, .val (.int (0 : Int32)), .val (.ref vb), .val (.ref va)] [(.ref va), (.ref vb)])) rfl (by rw [hml]; rfl) (Steps.refl _) (argsL := [(.ref va)]) (rest := []) (lenOf pd_4 rfl) rfl (by show 2 * 0 + _ ≤ _; exact Nat.le_of_eq rfl) (hb hby at_310) (fun _ _ => ⟨rfl, e188, (by decide : 10 + 0 ≤ _), (by decide : 30 + 0 ≤ _)⟩)
              dsimp only [Pt.U, Pt.locs, Pt.cells, Pt.slots] at X190 l190 y190 z190 st190 hQ190
              subst l190 y190 z190
              obtain ⟨r190, rfl, N190q, e190, hr190⟩ := hQ190
              have N191 := Fr.app N189 N190q
              refine Go.via (S' := T190.setTop (mkF m 313 #[.val (.int p1), .val (.int p2), .val (.long q3), .second, .val (.long q4), .second, .val (.int p5), .val (.int p6), .val (.int ii), .val (.long ss), .second, .val (.ref b1), .val (.ref nm2), .val (.ref va), .val (.ref vb), .val (.int (((p6.toUInt32 >>> ((3 : Int32) &&& 31).toUInt32).toInt32) &&& (3 : Int32))), .unset, .val (.int (0 : Int32)), .val (.ref vb), .val (.ref va)] [(.int r190)])) (fun _ k => st190.trans k) ?_
              rcases hr190 with ⟨rfl, hB190⟩ | ⟨rfl, hB190⟩
              · refine Go.via (S' := T190.setTop (mkF m 315 #[.val (.int p1), .val (.int p2), .val (.long q3), .second, .val (.long q4), .second, .val (.int p5), .val (.int p6), .val (.int ii), .val (.long ss), .second, .val (.ref b1), .val (.ref nm2), .val (.ref va), .val (.ref vb), .val (.int (((p6.toUInt32 >>> ((3 : Int32) &&& 31).toUInt32).toInt32) &&& (3 : Int32))), .unset, .val (.int (0 : Int32)), .val (.ref vb), .val (.ref va)] [(.int (0 : Int32)), (.int (1 : Int32))])) (fun _ k => XS.iload X190.here hx rfl (hb hby at_313) rfl k) ?_
                refine Go.via (S' := T190.setTop (mkF m 322 #[.val (.int p1), .val (.int p2), .val (.long q3), .second, .val (.long q4), .second, .val (.int p5), .val (.int p6), .val (.int ii), .val (.long ss), .second, .val (.ref b1), .val (.ref nm2), .val (.ref va), .val (.ref vb), .val (.int (((p6.toUInt32 >>> ((3 : Int32) &&& 31).toUInt32).toInt32) &&& (3 : Int32))), .unset, .val (.int (0 : Int32)), .val (.ref vb), .val (.ref va)] [])) (fun _ k => XS.icmpYes X190.here hx rfl (pc0 := 315) (pc' := 322) rfl (hb hby at_315) rfl (feq (by decide)).2 (by decide) (by decide) k) ?_
                refine Go.via (S' := T190.setTop (mkF m 323 #[.val (.int p1), .val (.int p2), .val (.long q3), .second, .val (.long q4), .second, .val (.int p5), .val (.int p6), .val (.int ii), .val (.long ss), .second, .val (.ref b1), .val (.ref nm2), .val (.ref va), .val (.ref vb), .val (.int (((p6.toUInt32 >>> ((3 : Int32) &&& 31).toUInt32).toInt32) &&& (3 : Int32))), .unset, .val (.int (0 : Int32)), .val (.ref vb), .val (.ref va)] [(.int (0 : Int32))])) (fun _ k => XS.iconst X190.here hx rfl (hb hby at_322) k) ?_
                refine Go.via (S' := T190.setTop (mkF m 325 #[.val (.int p1), .val (.int p2), .val (.long q3), .second, .val (.long q4), .second, .val (.int p5), .val (.int p6), .val (.int ii), .val (.long ss), .second, .val (.ref b1), .val (.ref nm2), .val (.ref va), .val (.ref vb), .val (.int (((p6.toUInt32 >>> ((3 : Int32) &&& 31).toUInt32).toInt32) &&& (3 : Int32))), .val (.int (0 : Int32)), .val (.int (0 : Int32)), .val (.ref vb), .val (.ref va)] [])) (fun _ k => XS.istore X190.here hx rfl (hb hby at_323) rfl (l' := #[.val (.int p1), .val (.int p2), .val (.long q3), .second, .val (.long q4), .second, .val (.int p5), .val (.int p6), .val (.int ii), .val (.long ss), .second, .val (.ref b1), .val (.ref nm2), .val (.ref va), .val (.ref vb), .val (.int (((p6.toUInt32 >>> ((3 : Int32) &&& 31).toUInt32).toInt32) &&& (3 : Int32))), .val (.int (0 : Int32)), .val (.int (0 : Int32)), .val (.ref vb), .val (.ref va)]) rfl k) ?_
                exfalso
                first | exact hB190 ⟨rfl, rfl⟩ | exact hB190 ⟨hc269, hc276⟩ | exact hc269 hB190.1 | exact hc276 hB190.2 | exact hB190 ⟨hc269.symm, hc276.symm⟩ | exact hc269 hB190.1.symm | exact hc276 hB190.2.symm
              · refine Go.via (S' := T190.setTop (mkF m 315 #[.val (.int p1), .val (.int p2), .val (.long q3), .second, .val (.long q4), .second, .val (.int p5), .val (.int p6), .val (.int ii), .val (.long ss), .second, .val (.ref b1), .val (.ref nm2), .val (.ref va), .val (.ref vb), .val (.int (((p6.toUInt32 >>> ((3 : Int32) &&& 31).toUInt32).toInt32) &&& (3 : Int32))), .unset, .val (.int (0 : Int32)), .val (.ref vb), .val (.ref va)] [(.int (0 : Int32)), (.int (0 : Int32))])) (fun _ k => XS.iload X190.here hx rfl (hb hby at_313) rfl k) ?_
                refine Go.via (S' := T190.setTop (mkF m 318 #[.val (.int p1), .val (.int p2), .val (.long q3), .second, .val (.long q4), .second, .val (.int p5), .val (.int p6), .val (.int ii), .val (.long ss), .second, .val (.ref b1), .val (.ref nm2), .val (.ref va), .val (.ref vb), .val (.int (((p6.toUInt32 >>> ((3 : Int32) &&& 31).toUInt32).toInt32) &&& (3 : Int32))), .unset, .val (.int (0 : Int32)), .val (.ref vb), .val (.ref va)] [])) (fun _ k => XS.icmpNo X190.here hx rfl (hb hby at_315) rfl (teq (by decide)).2 k) ?_
                refine Go.via (S' := T190.setTop (mkF m 319 #[.val (.int p1), .val (.int p2), .val (.long q3), .second, .val (.long q4), .second, .val (.int p5), .val (.int p6), .val (.int ii), .val (.long ss), .second, .val (.ref b1), .val (.ref nm2), .val (.ref va), .val (.ref vb), .val (.int (((p6.toUInt32 >>> ((3 : Int32) &&& 31).toUInt32).toInt32) &&& (3 : Int32))), .unset, .val (.int (0 : Int32)), .val (.ref vb), .val (.ref va)] [(.int (1 : Int32))])) (fun _ k => XS.iconst X190.here hx rfl (hb hby at_318) k) ?_
                refine Go.via (S' := T190.setTop (mkF m 323 #[.val (.int p1), .val (.int p2), .val (.long q3), .second, .val (.long q4), .second, .val (.int p5), .val (.int p6), .val (.int ii), .val (.long ss), .second, .val (.ref b1), .val (.ref nm2), .val (.ref va), .val (.ref vb), .val (.int (((p6.toUInt32 >>> ((3 : Int32) &&& 31).toUInt32).toInt32) &&& (3 : Int32))), .unset, .val (.int (0 : Int32)), .val (.ref vb), .val (.ref va)] [(.int (1 : Int32))])) (fun _ k => XS.goto X190.here hx rfl (pc0 := 319) (pc' := 323) rfl (hb hby at_319) (by decide) (by decide) k) ?_
                refine Go.via (S' := T190.setTop (mkF m 325 #[.val (.int p1), .val (.int p2), .val (.long q3), .second, .val (.long q4), .second, .val (.int p5), .val (.int p6), .val (.int ii), .val (.long ss), .second, .val (.ref b1), .val (.ref nm2), .val (.ref va), .val (.ref vb), .val (.int (((p6.toUInt32 >>> ((3 : Int32) &&& 31).toUInt32).toInt32) &&& (3 : Int32))), .val (.int (1 : Int32)), .val (.int (0 : Int32)), .val (.ref vb), .val (.ref va)] [])) (fun _ k => XS.istore X190.here hx rfl (hb hby at_323) rfl (l' := #[.val (.int p1), .val (.int p2), .val (.long q3), .second, .val (.long q4), .second, .val (.int p5), .val (.int p6), .val (.int ii), .val (.long ss), .second, .val (.ref b1), .val (.ref nm2), .val (.ref va), .val (.ref vb), .val (.int (((p6.toUInt32 >>> ((3 : Int32) &&& 31).toUInt32).toInt32) &&& (3 : Int32))), .val (.int (1 : Int32)), .val (.int (0 : Int32)), .val (.ref vb), .val (.ref va)]) rfl k) ?_
                refine Go.via (S' := T190.setTop (mkF m 327 #[.val (.int p1), .val (.int p2), .val (.long q3), .second, .val (.long q4), .second, .val (.int p5), .val (.int p6), .val (.int ii), .val (.long ss), .second, .val (.ref b1), .val (.ref nm2), .val (.ref va), .val (.ref vb), .val (.int (((p6.toUInt32 >>> ((3 : Int32) &&& 31).toUInt32).toInt32) &&& (3 : Int32))), .val (.int (1 : Int32)), .val (.int (0 : Int32)), .val (.ref vb), .val (.ref va)] [(.int (1 : Int32))])) (fun _ k => XS.iload X190.here hx rfl (hb hby at_325) rfl k) ?_
                exact Go.retB X190 hx (BodyLoose.notSynchronized Bd) Bd.returns (hb hby at_327) rfl (by rw [e190]; exact ⟨rfl, N191⟩) (by decide) (by decide)
        · refine Go.via (S' := T142.setTop (mkF m 283 #[.val (.int p1), .val (.int p2), .val (.long q3), .second, .val (.long q4), .second, .val (.int p5), .val (.int p6), .val (.int ii), .val (.long ss), .second, .val (.ref b1), .val (.ref nm2), .val (.ref va), .val (.ref vb), .val (.int (((p6.toUInt32 >>> ((3 : Int32) &&& 31).toUInt32).toInt32) &&& (3 : Int32))), .unset, .unset, .unset, .unset] [])) (fun _ k => XS.icmpYes X142.here hx rfl (pc0 := 269) (pc' := 283) rfl (hb hby at_269) rfl (feq hc269).2 (by decide) (by decide) k) ?_
          refine Go.via (S' := T142.setTop (mkF m 284 #[.val (.int p1), .val (.int p2), .val (.long q3), .second, .val (.long q4), .second, .val (.int p5), .val (.int p6), .val (.int ii), .val (.long ss), .second, .val (.ref b1), .val (.ref nm2), .val (.ref va), .val (.ref vb), .val (.int (((p6.toUInt32 >>> ((3 : Int32) &&& 31).toUInt32).toInt32) &&& (3 : Int32))), .unset, .unset, .unset, .unset] [(.int (0 : Int32))])) (fun _ k => XS.iconst X142.here hx rfl (hb hby at_283) k) ?_
          refine Go.via (S' := T142.setTop (mkF m 286 #[.val (.int p1), .val (.int p2), .val (.long q3), .second, .val (.long q4), .second, .val (.int p5), .val (.int p6), .val (.int ii), .val (.long ss), .second, .val (.ref b1), .val (.ref nm2), .val (.ref va), .val (.ref vb), .val (.int (((p6.toUInt32 >>> ((3 : Int32) &&& 31).toUInt32).toInt32) &&& (3 : Int32))), .unset, .val (.int (0 : Int32)), .unset, .unset] [])) (fun _ k => XS.istore X142.here hx rfl (hb hby at_284) rfl (l' := #[.val (.int p1), .val (.int p2), .val (.long q3), .second, .val (.long q4), .second, .val (.int p5), .val (.int p6), .val (.int ii), .val (.long ss), .second, .val (.ref b1), .val (.ref nm2), .val (.ref va), .val (.ref vb), .val (.int (((p6.toUInt32 >>> ((3 : Int32) &&& 31).toUInt32).toInt32) &&& (3 : Int32))), .unset, .val (.int (0 : Int32)), .unset, .unset]) rfl k) ?_
          refine Go.via (S' := T142.setTop (mkF m 288 #[.val (.int p1), .val (.int p2), .val (.long q3), .second, .val (.long q4), .second, .val (.int p5), .val (.int p6), .val (.int ii), .val (.long ss), .second, .val (.ref b1), .val (.ref nm2), .val (.ref va), .val (.ref vb), .val (.int (((p6.toUInt32 >>> ((3 : Int32) &&& 31).toUInt32).toInt32) &&& (3 : Int32))), .unset, .val (.int (0 : Int32)), .unset, .unset] [(.ref vb)])) (fun _ k => XS.aload X142.here hx rfl (hb hby at_286) rfl rfl k) ?_
          refine Go.via (S' := T142.setTop (mkF m 290 #[.val (.int p1), .val (.int p2), .val (.long q3), .second, .val (.long q4), .second, .val (.int p5), .val (.int p6), .val (.int ii), .val (.long ss), .second, .val (.ref b1), .val (.ref nm2), .val (.ref va), .val (.ref vb), .val (.int (((p6.toUInt32 >>> ((3 : Int32) &&& 31).toUInt32).toInt32) &&& (3 : Int32))), .unset, .val (.int (0 : Int32)), .val (.ref vb), .unset] [])) (fun _ k => XS.astore X142.here hx rfl (hb hby at_288) rfl rfl (l' := #[.val (.int p1), .val (.int p2), .val (.long q3), .second, .val (.long q4), .second, .val (.int p5), .val (.int p6), .val (.int ii), .val (.long ss), .second, .val (.ref b1), .val (.ref nm2), .val (.ref va), .val (.ref vb), .val (.int (((p6.toUInt32 >>> ((3 : Int32) &&& 31).toUInt32).toInt32) &&& (3 : Int32))), .unset, .val (.int (0 : Int32)), .val (.ref vb), .unset]) rfl k) ?_
          refine Go.via (S' := T142.setTop (mkF m 292 #[.val (.int p1), .val (.int p2), .val (.long q3), .second, .val (.long q4), .second, .val (.int p5), .val (.int p6), .val (.int ii), .val (.long ss), .second, .val (.ref b1), .val (.ref nm2), .val (.ref va), .val (.ref vb), .val (.int (((p6.toUInt32 >>> ((3 : Int32) &&& 31).toUInt32).toInt32) &&& (3 : Int32))), .unset, .val (.int (0 : Int32)), .val (.ref vb), .unset] [(.ref va)])) (fun _ k => XS.aload X142.here hx rfl (hb hby at_290) rfl rfl k) ?_
          refine Go.via (S' := T142.setTop (mkF m 294 #[.val (.int p1), .val (.int p2), .val (.long q3), .second, .val (.long q4), .second, .val (.int p5), .val (.int p6), .val (.int ii), .val (.long ss), .second, .val (.ref b1), .val (.ref nm2), .val (.ref va), .val (.ref vb), .val (.int (((p6.toUInt32 >>> ((3 : Int32) &&& 31).toUInt32).toInt32) &&& (3 : Int32))), .unset, .val (.int (0 : Int32)), .val (.ref vb), .val (.ref va)] [])) (fun _ k => XS.astore X142.here hx rfl (hb hby at_292) rfl rfl (l' := #[.val (.int p1), .val (.int p2), .val (.long q3), .second, .val (.long q4), .second, .val (.int p5), .val (.int p6), .val (.int ii), .val (.long ss), .second, .val (.ref b1), .val (.ref nm2), .val (.ref va), .val (.ref vb), .val (.int (((p6.toUInt32 >>> ((3 : Int32) &&& 31).toUInt32).toInt32) &&& (3 : Int32))), .unset, .val (.int (0 : Int32)), .val (.ref vb), .val (.ref va)]) rfl k) ?_
          refine Go.via (S' := T142.setTop (mkF m 296 #[.val (.int p1), .val (.int p2), .val (.long q3), .second, .val (.long q4), .second, .val (.int p5), .val (.int p6), .val (.int ii), .val (.long ss), .second, .val (.ref b1), .val (.ref nm2), .val (.ref va), .val (.ref vb), .val (.int (((p6.toUInt32 >>> ((3 : Int32) &&& 31).toUInt32).toInt32) &&& (3 : Int32))), .unset, .val (.int (0 : Int32)), .val (.ref vb), .val (.ref va)] [(.ref va)])) (fun _ k => XS.aload X142.here hx rfl (hb hby at_294) rfl rfl k) ?_
          refine Go.via (S' := T142.setTop (mkF m 298 #[.val (.int p1), .val (.int p2), .val (.long q3), .second, .val (.long q4), .second, .val (.int p5), .val (.int p6), .val (.int ii), .val (.long ss), .second, .val (.ref b1), .val (.ref nm2), .val (.ref va), .val (.ref vb), .val (.int (((p6.toUInt32 >>> ((3 : Int32) &&& 31).toUInt32).toInt32) &&& (3 : Int32))), .unset, .val (.int (0 : Int32)), .val (.ref vb), .val (.ref va)] [(.ref vb), (.ref va)])) (fun _ k => XS.aload X142.here hx rfl (hb hby at_296) rfl rfl k) ?_
          obtain ⟨cq192, kq192, q192a, q192b, q192c⟩ := isOf hZ e142 fk142_1
          obtain ⟨_, _, ⟨T192, L192, k192, n192⟩, -, X192, ⟨Lc192, hQ192, l192, y192, z192⟩, st192⟩ := X142.virtualBack hx (y := (⟨"com/example/covenant/covenant/lang/Variable", "equals", "(Ljava/lang/Object;)Z"⟩ : MethodName)) (z := (⟨"com/example/covenant/covenant/lang/Variable", "equals", "(Ljava/lang/Object;)Z"⟩ : MethodName)) hown (mvT hZ (hw _ (List.mem_of_getElem? (i := 52) rfl))) (mvT hZ (hw _ (List.mem_of_getElem? (i := 53) rfl))) (notFace_of_selects (args := #[]) (mvT hZ (hw _ (List.mem_of_getElem? (i := 55) rfl)))) (mvT hZ (hw _ (List.mem_of_getElem? (i := 55) rfl))) (mvT hZ (hw _ (List.mem_of_getElem? (i := 54) rfl))) (by decide) (backOf (W := 0) (rm10 l Z a0 hw [] va vb p1 ii q3 ss h142 n0 z142 fk142_2 fk142_3 fn142_0 fn142_1 fn142_2) hZ (hw _ (List.mem_of_getElem? (i := 56) rfl)) (hw _ (List.mem_of_getElem? (i := 32) rfl)) (by decide) (by decide)) q192a q192c (g := (mkF m 298 #[.val (.int p1), .val (.int p2), .val (.long q3), .second, .val (.long q4), .second, .val (.int p5), .val (.int p6), .val (.int ii), .val (.long ss), .second, .val (.ref b1), .val (.ref nm2), .val (.ref va), .val (.ref vb), .val (.int (((p6.toUInt32 >>> ((3 : Int32) &&& 31).toUInt32).toInt32) &&& (3 : Int32))), .unset, .val (.int (0 : Int32)), .val (.ref vb), .val (.ref va)] [(.ref vb), (.ref va)])) rfl (by rw [hml]; rfl) (Steps.refl _) (argsL := [(.ref vb)]) (rest := []) (lenOf pd_4 rfl) rfl (by show 2 * 0 + _ ≤ _; exact Nat.le_of_eq rfl) (hb hby at_298) (fun _ _ => ⟨rfl, e142, (by decide : 10 + 0 ≤ _), (by decide : 30 + 0 ≤ _)⟩)
          dsimp only [Pt.U, Pt.locs, Pt.cells, Pt.slots] at X192 l192 y192 z192 st192 hQ192
          subst l192 y192 z192
          obtain ⟨r192, rfl, N192q, e192, hr192⟩ := hQ192
          have N193 := Fr.app N142 N192q
          refine Go.via (S' := T192.setTop (mkF m 301 #[.val (.int p1), .val (.int p2), .val (.long q3), .second, .val (.long q4), .second, .val (.int p5), .val (.int p6), .val (.int ii), .val (.long ss), .second, .val (.ref b1), .val (.ref nm2), .val (.ref va), .val (.ref vb), .val (.int (((p6.toUInt32 >>> ((3 : Int32) &&& 31).toUInt32).toInt32) &&& (3 : Int32))), .unset, .val (.int (0 : Int32)), .val (.ref vb), .val (.ref va)] [(.int r192)])) (fun _ k => st192.trans k) ?_
          rcases hr192 with ⟨rfl, hB192⟩ | ⟨rfl, hB192⟩
          · refine Go.via (S' := T192.setTop (mkF m 303 #[.val (.int p1), .val (.int p2), .val (.long q3), .second, .val (.long q4), .second, .val (.int p5), .val (.int p6), .val (.int ii), .val (.long ss), .second, .val (.ref b1), .val (.ref nm2), .val (.ref va), .val (.ref vb), .val (.int (((p6.toUInt32 >>> ((3 : Int32) &&& 31).toUInt32).toInt32) &&& (3 : Int32))), .unset, .val (.int (0 : Int32)), .val (.ref vb), .val (.ref va)] [(.int (0 : Int32)), (.int (1 : Int32))])) (fun _ k => XS.iload X192.here hx rfl (hb hby at_301) rfl k) ?_
            refine Go.via (S' := T192.setTop (mkF m 322 #[.val (.int p1), .val (.int p2), .val (.long q3), .second, .val (.long q4), .second, .val (.int p5), .val (.int p6), .val (.int ii), .val (.long ss), .second, .val (.ref b1), .val (.ref nm2), .val (.ref va), .val (.ref vb), .val (.int (((p6.toUInt32 >>> ((3 : Int32) &&& 31).toUInt32).toInt32) &&& (3 : Int32))), .unset, .val (.int (0 : Int32)), .val (.ref vb), .val (.ref va)] [])) (fun _ k => XS.icmpYes X192.here hx rfl (pc0 := 303) (pc' := 322) rfl (hb hby at_303) rfl (feq (by decide)).2 (by decide) (by decide) k) ?_
            refine Go.via (S' := T192.setTop (mkF m 323 #[.val (.int p1), .val (.int p2), .val (.long q3), .second, .val (.long q4), .second, .val (.int p5), .val (.int p6), .val (.int ii), .val (.long ss), .second, .val (.ref b1), .val (.ref nm2), .val (.ref va), .val (.ref vb), .val (.int (((p6.toUInt32 >>> ((3 : Int32) &&& 31).toUInt32).toInt32) &&& (3 : Int32))), .unset, .val (.int (0 : Int32)), .val (.ref vb), .val (.ref va)] [(.int (0 : Int32))])) (fun _ k => XS.iconst X192.here hx rfl (hb hby at_322) k) ?_
            refine Go.via (S' := T192.setTop (mkF m 325 #[.val (.int p1), .val (.int p2), .val (.long q3), .second, .val (.long q4), .second, .val (.int p5), .val (.int p6), .val (.int ii), .val (.long ss), .second, .val (.ref b1), .val (.ref nm2), .val (.ref va), .val (.ref vb), .val (.int (((p6.toUInt32 >>> ((3 : Int32) &&& 31).toUInt32).toInt32) &&& (3 : Int32))), .val (.int (0 : Int32)), .val (.int (0 : Int32)), .val (.ref vb), .val (.ref va)] [])) (fun _ k => XS.istore X192.here hx rfl (hb hby at_323) rfl (l' := #[.val (.int p1), .val (.int p2), .val (.long q3), .second, .val (.long q4), .second, .val (.int p5), .val (.int p6), .val (.int ii), .val (.long ss), .second, .val (.ref b1), .val (.ref nm2), .val (.ref va), .val (.ref vb), .val (.int (((p6.toUInt32 >>> ((3 : Int32) &&& 31).toUInt32).toInt32) &&& (3 : Int32))), .val (.int (0 : Int32)), .val (.int (0 : Int32)), .val (.ref vb), .val (.ref va)]) rfl k) ?_
            exfalso
            first | exact hB192 ⟨rfl, rfl⟩ | exact hB192 ⟨hc269, hc276⟩ | exact hc269 hB192.1 | exact hc276 hB192.2 | exact hB192 ⟨hc269.symm, hc276.symm⟩ | exact hc269 hB192.1.symm | exact hc276 hB192.2.symm
          · refine Go.via (S' := T192.setTop (mkF m 303 #[.val (.int p1), .val (.int p2), .val (.long q3), .second, .val (.long q4), .second, .val (.int p5), .val (.int p6), .val (.int ii), .val (.long ss), .second, .val (.ref b1), .val (.ref nm2), .val (.ref va), .val (.ref vb), .val (.int (((p6.toUInt32 >>> ((3 : Int32) &&& 31).toUInt32).toInt32) &&& (3 : Int32))), .unset, .val (.int (0 : Int32)), .val (.ref vb), .val (.ref va)] [(.int (0 : Int32)), (.int (0 : Int32))])) (fun _ k => XS.iload X192.here hx rfl (hb hby at_301) rfl k) ?_
            refine Go.via (S' := T192.setTop (mkF m 306 #[.val (.int p1), .val (.int p2), .val (.long q3), .second, .val (.long q4), .second, .val (.int p5), .val (.int p6), .val (.int ii), .val (.long ss), .second, .val (.ref b1), .val (.ref nm2), .val (.ref va), .val (.ref vb), .val (.int (((p6.toUInt32 >>> ((3 : Int32) &&& 31).toUInt32).toInt32) &&& (3 : Int32))), .unset, .val (.int (0 : Int32)), .val (.ref vb), .val (.ref va)] [])) (fun _ k => XS.icmpNo X192.here hx rfl (hb hby at_303) rfl (teq (by decide)).2 k) ?_
            refine Go.via (S' := T192.setTop (mkF m 308 #[.val (.int p1), .val (.int p2), .val (.long q3), .second, .val (.long q4), .second, .val (.int p5), .val (.int p6), .val (.int ii), .val (.long ss), .second, .val (.ref b1), .val (.ref nm2), .val (.ref va), .val (.ref vb), .val (.int (((p6.toUInt32 >>> ((3 : Int32) &&& 31).toUInt32).toInt32) &&& (3 : Int32))), .unset, .val (.int (0 : Int32)), .val (.ref vb), .val (.ref va)] [(.ref vb)])) (fun _ k => XS.aload X192.here hx rfl (hb hby at_306) rfl rfl k) ?_
            refine Go.via (S' := T192.setTop (mkF m 310 #[.val (.int p1), .val (.int p2), .val (.long q3), .second, .val (.long q4), .second, .val (.int p5), .val (.int p6), .val (.int ii), .val (.long ss), .second, .val (.ref b1), .val (.ref nm2), .val (.ref va), .val (.ref vb), .val (.int (((p6.toUInt32 >>> ((3 : Int32) &&& 31).toUInt32).toInt32) &&& (3 : Int32))), .unset, .val (.int (0 : Int32)), .val (.ref vb), .val (.ref va)] [(.ref va), (.ref vb)])) (fun _ k => XS.aload X192.here hx rfl (hb hby at_308) rfl rfl k) ?_
            obtain ⟨cq194, kq194, q194a, q194b, q194c⟩ := isOf hZ e192 fn142_0
            obtain ⟨_, _, ⟨T194, L194, k194, n194⟩, -, X194, ⟨Lc194, hQ194, l194, y194, z194⟩, st194⟩ := X192.virtualBack hx (y := (⟨"com/example/covenant/covenant/lang/Variable", "equals", "(Ljava/lang/Object;)Z"⟩ : MethodName)) (z := (⟨"com/example/covenant/covenant/lang/Variable", "equals", "(Ljava/lang/Object;)Z"⟩ : MethodName)) hown (mvT hZ (hw _ (List.mem_of_getElem? (i := 52) rfl))) (mvT hZ (hw _ (List.mem_of_getElem? (i := 53) rfl))) (notFace_of_selects (args := #[]) (mvT hZ (hw _ (List.mem_of_getElem? (i := 55) rfl)))) (mvT hZ (hw _ (List.mem_of_getElem? (i := 55) rfl))) (mvT hZ (hw _ (List.mem_of_getElem? (i := 54) rfl))) (by decide) (backOf (W := 0) (rm10 l Z a0 hw [] vb va ii p1 ss q3 h142 n0 z142 fn142_1 fn142_2 fk142_1 fk142_2 fk142_3) hZ (hw _ (List.mem_of_getElem? (i := 56) rfl)) (hw _ (List.mem_of_getElem? (i := 32) rfl)) (by decide) (by decide)) q194a q194c (g := (mkF m 310 #[.val (.int p1), .val (.int p2), .val (.long q3), .second, .val (.long q4), .second, .val (.int p5), .val (.int p6), .val (.int ii), .val (.long ss), .second, .val (.ref b1), .val (.ref nm2), .val (.ref va), .val (.ref vb), .val (.int (((p6.toUInt32 >>> ((3 : Int32) &&& 31).toUInt32).toInt32) &&& (3 : Int32))), .unset, .val (.int (0 : Int32)), .val (.ref vb), .val (.ref va)] [(.ref va), (.ref vb)])) rfl (by rw [hml]; rfl) (Steps.refl _) (argsL := [(.ref va)]) (rest := []) (lenOf pd_4 rfl) rfl (by show 2 * 0 + _ ≤ _; exact Nat.le_of_eq rfl) (hb hby at_310) (fun _ _ => ⟨rfl, e192, (by decide : 10 + 0 ≤ _), (by decide : 30 + 0 ≤ _)⟩)
            dsimp only [Pt.U, Pt.locs, Pt.cells, Pt.slots] at X194 l194 y194 z194 st194 hQ194
            subst l194 y194 z194
            obtain ⟨r194, rfl, N194q, e194, hr194⟩ := hQ194
            have N195 := Fr.app N193 N194q
            refine Go.via (S' := T194.setTop (mkF m 313 #[.val (.int p1), .val (.int p2), .val (.long q3), .second, .val (.long q4), .second, .val (.int p5), .val (.int p6), .val (.int ii), .val (.long ss), .second, .val (.ref b1), .val (.ref nm2), .val (.ref va), .val (.ref vb), .val (.int (((p6.toUInt32 >>> ((3 : Int32) &&& 31).toUInt32).toInt32) &&& (3 : Int32))), .unset, .val (.int (0 : Int32)), .val (.ref vb), .val (.ref va)] [(.int r194)])) (fun _ k => st194.trans k) ?_
            rcases hr194 with ⟨rfl, hB194⟩ | ⟨rfl, hB194⟩
            · refine Go.via (S' := T194.setTop (mkF m 315 #[.val (.int p1), .val (.int p2), .val (.long q3), .second, .val (.long q4), .second, .val (.int p5), .val (.int p6), .val (.int ii), .val (.long ss), .second, .val (.ref b1), .val (.ref nm2), .val (.ref va), .val (.ref vb), .val (.int (((p6.toUInt32 >>> ((3 : Int32) &&& 31).toUInt32).toInt32) &&& (3 : Int32))), .unset, .val (.int (0 : Int32)), .val (.ref vb), .val (.ref va)] [(.int (0 : Int32)), (.int (1 : Int32))])) (fun _ k => XS.iload X194.here hx rfl (hb hby at_313) rfl k) ?_
              refine Go.via (S' := T194.setTop (mkF m 322 #[.val (.int p1), .val (.int p2), .val (.long q3), .second, .val (.long q4), .second, .val (.int p5), .val (.int p6), .val (.int ii), .val (.long ss), .second, .val (.ref b1), .val (.ref nm2), .val (.ref va), .val (.ref vb), .val (.int (((p6.toUInt32 >>> ((3 : Int32) &&& 31).toUInt32).toInt32) &&& (3 : Int32))), .unset, .val (.int (0 : Int32)), .val (.ref vb), .val (.ref va)] [])) (fun _ k => XS.icmpYes X194.here hx rfl (pc0 := 315) (pc' := 322) rfl (hb hby at_315) rfl (feq (by decide)).2 (by decide) (by decide) k) ?_
              refine Go.via (S' := T194.setTop (mkF m 323 #[.val (.int p1), .val (.int p2), .val (.long q3), .second, .val (.long q4), .second, .val (.int p5), .val (.int p6), .val (.int ii), .val (.long ss), .second, .val (.ref b1), .val (.ref nm2), .val (.ref va), .val (.ref vb), .val (.int (((p6.toUInt32 >>> ((3 : Int32) &&& 31).toUInt32).toInt32) &&& (3 : Int32))), .unset, .val (.int (0 : Int32)), .val (.ref vb), .val (.ref va)] [(.int (0 : Int32))])) (fun _ k => XS.iconst X194.here hx rfl (hb hby at_322) k) ?_
              refine Go.via (S' := T194.setTop (mkF m 325 #[.val (.int p1), .val (.int p2), .val (.long q3), .second, .val (.long q4), .second, .val (.int p5), .val (.int p6), .val (.int ii), .val (.long ss), .second, .val (.ref b1), .val (.ref nm2), .val (.ref va), .val (.ref vb), .val (.int (((p6.toUInt32 >>> ((3 : Int32) &&& 31).toUInt32).toInt32) &&& (3 : Int32))), .val (.int (0 : Int32)), .val (.int (0 : Int32)), .val (.ref vb), .val (.ref va)] [])) (fun _ k => XS.istore X194.here hx rfl (hb hby at_323) rfl (l' := #[.val (.int p1), .val (.int p2), .val (.long q3), .second, .val (.long q4), .second, .val (.int p5), .val (.int p6), .val (.int ii), .val (.long ss), .second, .val (.ref b1), .val (.ref nm2), .val (.ref va), .val (.ref vb), .val (.int (((p6.toUInt32 >>> ((3 : Int32) &&& 31).toUInt32).toInt32) &&& (3 : Int32))), .val (.int (0 : Int32)), .val (.int (0 : Int32)), .val (.ref vb), .val (.ref va)]) rfl k) ?_
              exfalso
              first | exact hB194 ⟨rfl, rfl⟩ | exact hB194 ⟨hc269, hc276⟩ | exact hc269 hB194.1 | exact hc276 hB194.2 | exact hB194 ⟨hc269.symm, hc276.symm⟩ | exact hc269 hB194.1.symm | exact hc276 hB194.2.symm
            · refine Go.via (S' := T194.setTop (mkF m 315 #[.val (.int p1), .val (.int p2), .val (.long q3), .second, .val (.long q4), .second, .val (.int p5), .val (.int p6), .val (.int ii), .val (.long ss), .second, .val (.ref b1), .val (.ref nm2), .val (.ref va), .val (.ref vb), .val (.int (((p6.toUInt32 >>> ((3 : Int32) &&& 31).toUInt32).toInt32) &&& (3 : Int32))), .unset, .val (.int (0 : Int32)), .val (.ref vb), .val (.ref va)] [(.int (0 : Int32)), (.int (0 : Int32))])) (fun _ k => XS.iload X194.here hx rfl (hb hby at_313) rfl k) ?_
              refine Go.via (S' := T194.setTop (mkF m 318 #[.val (.int p1), .val (.int p2), .val (.long q3), .second, .val (.long q4), .second, .val (.int p5), .val (.int p6), .val (.int ii), .val (.long ss), .second, .val (.ref b1), .val (.ref nm2), .val (.ref va), .val (.ref vb), .val (.int (((p6.toUInt32 >>> ((3 : Int32) &&& 31).toUInt32).toInt32) &&& (3 : Int32))), .unset, .val (.int (0 : Int32)), .val (.ref vb), .val (.ref va)] [])) (fun _ k => XS.icmpNo X194.here hx rfl (hb hby at_315) rfl (teq (by decide)).2 k) ?_
              refine Go.via (S' := T194.setTop (mkF m 319 #[.val (.int p1), .val (.int p2), .val (.long q3), .second, .val (.long q4), .second, .val (.int p5), .val (.int p6), .val (.int ii), .val (.long ss), .second, .val (.ref b1), .val (.ref nm2), .val (.ref va), .val (.ref vb), .val (.int (((p6.toUInt32 >>> ((3 : Int32) &&& 31).toUInt32).toInt32) &&& (3 : Int32))), .unset, .val (.int (0 : Int32)), .val (.ref vb), .val (.ref va)] [(.int (1 : Int32))])) (fun _ k => XS.iconst X194.here hx rfl (hb hby at_318) k) ?_
              refine Go.via (S' := T194.setTop (mkF m 323 #[.val (.int p1), .val (.int p2), .val (.long q3), .second, .val (.long q4), .second, .val (.int p5), .val (.int p6), .val (.int ii), .val (.long ss), .second, .val (.ref b1), .val (.ref nm2), .val (.ref va), .val (.ref vb), .val (.int (((p6.toUInt32 >>> ((3 : Int32) &&& 31).toUInt32).toInt32) &&& (3 : Int32))), .unset, .val (.int (0 : Int32)), .val (.ref vb), .val (.ref va)] [(.int (1 : Int32))])) (fun _ k => XS.goto X194.here hx rfl (pc0 := 319) (pc' := 323) rfl (hb hby at_319) (by decide) (by decide) k) ?_
              refine Go.via (S' := T194.setTop (mkF m 325 #[.val (.int p1), .val (.int p2), .val (.long q3), .second, .val (.long q4), .second, .val (.int p5), .val (.int p6), .val (.int ii), .val (.long ss), .second, .val (.ref b1), .val (.ref nm2), .val (.ref va), .val (.ref vb), .val (.int (((p6.toUInt32 >>> ((3 : Int32) &&& 31).toUInt32).toInt32) &&& (3 : Int32))), .val (.int (1 : Int32)), .val (.int (0 : Int32)), .val (.ref vb), .val (.ref va)] [])) (fun _ k => XS.istore X194.here hx rfl (hb hby at_323) rfl (l' := #[.val (.int p1), .val (.int p2), .val (.long q3), .second, .val (.long q4), .second, .val (.int p5), .val (.int p6), .val (.int ii), .val (.long ss), .second, .val (.ref b1), .val (.ref nm2), .val (.ref va), .val (.ref vb), .val (.int (((p6.toUInt32 >>> ((3 : Int32) &&& 31).toUInt32).toInt32) &&& (3 : Int32))), .val (.int (1 : Int32)), .val (.int (0 : Int32)), .val (.ref vb), .val (.ref va)]) rfl k) ?_
              refine Go.via (S' := T194.setTop (mkF m 327 #[.val (.int p1), .val (.int p2), .val (.long q3), .second, .val (.long q4), .second, .val (.int p5), .val (.int p6), .val (.int ii), .val (.long ss), .second, .val (.ref b1), .val (.ref nm2), .val (.ref va), .val (.ref vb), .val (.int (((p6.toUInt32 >>> ((3 : Int32) &&& 31).toUInt32).toInt32) &&& (3 : Int32))), .val (.int (1 : Int32)), .val (.int (0 : Int32)), .val (.ref vb), .val (.ref va)] [(.int (1 : Int32))])) (fun _ k => XS.iload X194.here hx rfl (hb hby at_325) rfl k) ?_
              exact Go.retB X194 hx (BodyLoose.notSynchronized Bd) Bd.returns (hb hby at_327) rfl (by rw [e194]; exact ⟨rfl, N195⟩) (by decide) (by decide)
set_option maxRecDepth 65536 in
set_option maxHeartbeats 40000000 in
theorem comes_1 {Post : Tables → Env → Array Value → State → Outcome → State → Prop} (hpost : ∀ tb e args s v u, (limb_1_1.after args s (.returned v) u = true ∧ limb_1_2.after args s (.returned v) u = true ∧ True) → FrameEnd s (.returned v) u (Jvm.fieldLocs frame_1_writes args s ++ Jvm.arrayLocs frame_1_arrays args s ++ Jvm.staticLocs frame_1_statics s) 32 128 → Post tb e args s (.returned v) u) :
    ArmFor flags0 classFile x code maxLocals ret World_1 tables_1 room_1 Calls_1 rest_1 Pre_1 Post := by
  intro l hfl _ _ p e ha hc hk s m args below hf hA hF happ hP
  obtain ⟨hcalls, hrest, hpre⟩ := hP
  obtain ⟨-, -, -, hnamed, -, -, -, hat⟩ := (Spec.applies_iff hf).mp happ
  obtain ⟨hg, hn⟩ := and_e (Cond.before_iff.mp (show (Jvm.Cond.and given_1 narrow_1).before args s = true from hpre))
  obtain ⟨gg0, hg0⟩ := and_e hg
  obtain ⟨gg1, hg1⟩ := and_e hg0
  obtain ⟨gg2, hg2⟩ := and_e hg1
  obtain ⟨gg3, hg3⟩ := and_e hg2
  obtain ⟨gg4, hg4⟩ := and_e hg3
  obtain ⟨gg5, hg5⟩ := and_e hg4
  obtain ⟨w0, w1, w2, w3, w4, w5, rfl⟩ : ∃ w0 w1 w2 w3 w4 w5 : Value, args = #[w0, w1, w2, w3, w4, w5] := by
    have hs : args.size = 6 := by simpa [Cond.value, given_1] using gg0
    obtain ⟨L⟩ := args
    match L, hs with
    | [w0, w1, w2, w3, w4, w5], _ => exact ⟨w0, w1, w2, w3, w4, w5, rfl⟩
  have hw := fun d (hd : d ∈ tables_1) => atoms_spec (ws := Jvm.Cond.code x code maxLocals ret :: tables_1) hat d (List.mem_cons_of_mem _ hd)
  have hfit : Fit s := fun {y c} hc i hi => by
    obtain ⟨ha, rfl⟩ := Array.getElem?_eq_some_iff.mp hc
    have q := List.all_eq_true.mp ((Array.all_eq_true_iff_forall_mem.mp hF) _ (Array.getElem_mem ha)) i (List.mem_range.mpr hi)
    simpa [Array.getElem?_eq_getElem hi] using q
  obtain ⟨hsets, hown0⟩ := atoms_of _ (rest_1_c_eq ▸ (show rest_1_c.before _ s = true from hrest))
  obtain ⟨i0, ei0⟩ := is_v gg1
  obtain rfl : w0 = (.int i0) := Option.some.inj ei0
  obtain ⟨i1, ei1⟩ := is_v gg2
  obtain rfl : w1 = (.int i1) := Option.some.inj ei1
  obtain ⟨i2, ei2⟩ := isL_v gg3
  obtain rfl : w2 = (.long i2) := Option.some.inj ei2
  obtain ⟨i3, ei3⟩ := isL_v gg4
  obtain rfl : w3 = (.long i3) := Option.some.inj ei3
  obtain ⟨i4, ei4⟩ := is_v gg5
  obtain rfl : w4 = (.int i4) := Option.some.inj ei4
  obtain ⟨i5, ei5⟩ := is_v hg5
  obtain rfl : w5 = (.int i5) := Option.some.inj ei5
  obtain ⟨G1, eG1⟩ := is_v (Cond.before_iff.mp (hsets _ (List.mem_of_getElem? (i := 1) rfl)))
  have O2 := Sta.start eG1 (Or.inl (hsets _ (List.mem_of_getElem? (i := 0) rfl)))
  have P5 : ¬ G1 = (0 : Int32) := gotF (Cond.eq_ints eG1 (Term.int_eval 0)) (not_v (Cond.before_iff.mp (hsets _ (List.mem_of_getElem? (i := 2) rfl))))
  obtain ⟨n, o, h1, h2, h3, _, L, rfl, ⟨rfl, N⟩, hq⟩ := rm0 l s _ hw tables_1 i0 i1 i2 i3 i4 i5 G1 s.heap s.heap.size (Nat.le_refl _) (Old.start s) O2 P5 p e ha hc hk s m _ below hf ((Spec.applies_iff_loose hf).mp happ).1 ⟨rfl, State.Warmed39.refl s, rfl⟩ trivial
  refine ⟨n, _, h1, h2, h3, hpost _ _ _ _ _ _ ⟨Cond.after_iff.mpr rfl, Cond.after_iff.mpr (eq_i res_at (Term.int_eval (1)) rfl), trivial⟩ ⟨hq.1, hq.2.1, (hq.2.2.sift fun y hy => Or.inr (N y hy)).mono (by decide) (by decide)⟩⟩
theorem main_1_1 : Claimed_1_1 := comes_1 fun _ _ _ _ _ _ h hF => ⟨h.1, hF⟩
theorem main_1_2 : Claimed_1_2 := comes_1 fun _ _ _ _ _ _ h hF => ⟨h.2.1, hF⟩
end Jvm.Pilot.@@N@@
namespace Jvm.Pilot.@@N@@
open Jvm Jvm.ClassFile Sem Op Lib Jvm.Free Jvm.Stand Jvm.Pilot.@@N@@.Jvm.D
/-! MADE BY PROGRAM (witnessworld.py) out of the Statement's table words and the real class files: 22 classes; the members and pool entries that the words name. The judged class is class 1, her method 1. -/
namespace start1
open Jvm.ClassFile
def u (s : String) : CpInfo := .utf8 (stringToUtf16 s)
/-- a pool by its gaps: so many unusable entries, then the entry; so many at the end -/
def gap : Nat → List CpInfo → List CpInfo
  | 0, r => r
  | n + 1, r => .unusable :: gap n r
def poolList (es : List (Nat × CpInfo)) (last : Nat) : List CpInfo := es.foldr (fun e r => gap e.1 (e.2 :: r)) (gap last [])
def pool (es : List (Nat × CpInfo)) (last : Nat) : Array CpInfo := ⟨poolList es last⟩
def fileOf (pool : Array CpInfo) (this : Nat) (attrs : Array Attribute := #[]) (ms : Array MethodInfo := #[]) (fl : Nat := 33) (sup : Nat := 0) (ifs : Array Nat := #[]) (fds : Array FieldInfo := #[]) : ClassFile where
  minorVersion := 0
  majorVersion := 65
  constantPool := pool
  accessFlags := fl
  thisClass := this
  superClass := sup
  interfaces := ifs
  fields := fds
  methods := ms
  attributes := attrs
def plain (name : String) (sup : Option ClassId) : Class where
  name := name
  kind := .ordinary
  loader := none
  accessFlags := 33
  super := sup
  interfaces := #[]
  cf := none
  fields := #[]
  methods := #[]
  instanceTypes := #[]
  staticTypes := #[]
  resolved := #[]
  callSites := []
  init := .initialized
  statics := none
  mirror := none

def pool0 : Array CpInfo := pool [(5, u "<init>"), (0, u "()V"), (1, .class_ 10), (1, u "java/lang/Object")] 113

def k0c0 : Code := { maxStack := 0, maxLocals := 1, code := object_method_1_code, exceptionTable := #[], attributes := #[] }
def k0m0 : Method := { name := "<init>", desc := "()V", sig := { parameters := [], returnType := none }, accessFlags := 1, code := some k0c0 }
/-- java/lang/Object -/
def k0 : Class := { plain "java/lang/Object" none with
  accessFlags := 33
  interfaces := #[]
  cf := some (fileOf pool0 8 #[] #[{ accessFlags := 1, nameIndex := 5, descriptorIndex := 6, attributes := #[] }] 33 0 #[] #[])
  fields := #[]
  methods := #[k0m0]
  instanceTypes := #[]
  staticTypes := #[]
  resolved := Array.replicate 124 none
  statics := none }

def pool1 : Array CpInfo := pool [(2, .class_ 4), (1, u "java/lang/Object"), (0, u "<init>"), (0, u "()V"), (0, .class_ 8), (0, u "java/lang/String"), (0, .methodref 7 10), (0, .nameAndType 5 11), (0, u "([C)V"), (0, .class_ 13), (0, u "com/example/covenant/covenant/lang/Variable"), (0, .methodref 12 15), (0, .nameAndType 5 16), (0, u "(Ljava/lang/String;I)V"), (0, .methodref 12 18), (0, .nameAndType 19 20), (0, u "inScope"), (0, u "(J)Lcom/example/covenant/covenant/lang/Variable;"), (0, .methodref 12 22), (0, .nameAndType 23 24), (0, u "equals"), (0, u "(Ljava/lang/Object;)Z"), (0, .class_ 26), (0, u "com/example/covenant/covenant/lang/IntegerTerm"), (0, .methodref 25 28), (0, .nameAndType 5 29), (0, u "(J)V"), (0, .class_ 31), (0, u "com/example/covenant/covenant/lang/VariableEqualsPinLaw"), (2, u "law"), (0, u "(IIJJII)Z")] 3

def k1m0 : Method := { name := "<init>", desc := "()V", sig := { parameters := [], returnType := none }, accessFlags := 1, code := none }
def k1c1 : Code := { maxStack := 7, maxLocals := 20, code := code, exceptionTable := #[], attributes := #[] }
def k1m1 : Method := { name := "law", desc := "(IIJJII)Z", sig := { parameters := [.int, .int, .long, .long, .int, .int], returnType := some .boolean }, accessFlags := 9, code := some k1c1 }
/-- com/example/covenant/covenant/lang/VariableEqualsPinLaw -/
def k1 : Class := { plain "com/example/covenant/covenant/lang/VariableEqualsPinLaw" (some 0) with
  accessFlags := 49
  interfaces := #[]
  cf := some (fileOf pool1 30 #[] #[{ accessFlags := 1, nameIndex := 5, descriptorIndex := 6, attributes := #[] }, { accessFlags := 9, nameIndex := 34, descriptorIndex := 35, attributes := #[] }] 49 2 #[] #[])
  fields := #[]
  methods := #[k1m0, k1m1]
  instanceTypes := #[]
  staticTypes := #[]
  resolved := Array.replicate 39 none
  statics := none }

def pool2 : Array CpInfo := pool [(1, .class_ 2), (0, u "java/io/Serializable"), (0, .class_ 4), (0, u "java/lang/Object")] 2

/-- java/io/Serializable -/
def k2 : Class := { plain "java/io/Serializable" (some 0) with
  accessFlags := 1537
  interfaces := #[]
  cf := some (fileOf pool2 1 #[] #[] 1537 3 #[] #[])
  fields := #[]
  methods := #[]
  instanceTypes := #[]
  staticTypes := #[]
  resolved := Array.replicate 7 none
  statics := none }

def pool3 : Array CpInfo := pool [(1, .class_ 2), (0, u "java/lang/Comparable"), (0, .class_ 4), (0, u "java/lang/Object")] 7

/-- java/lang/Comparable -/
def k3 : Class := { plain "java/lang/Comparable" (some 0) with
  accessFlags := 1537
  interfaces := #[]
  cf := some (fileOf pool3 1 #[] #[] 1537 3 #[] #[])
  fields := #[]
  methods := #[]
  instanceTypes := #[]
  staticTypes := #[]
  resolved := Array.replicate 12 none
  statics := none }

def pool4 : Array CpInfo := pool [(2, .class_ 4), (1, u "java/lang/CharSequence"), (42, .class_ 48), (0, u "java/lang/CharSequence$1CodePointIterator"), (10, .class_ 60), (0, u "java/lang/CharSequence$1CharIterator"), (5, .class_ 67), (0, u "java/lang/Object")] 63

/-- java/lang/CharSequence -/
def k4 : Class := { plain "java/lang/CharSequence" (some 0) with
  accessFlags := 1537
  interfaces := #[]
  cf := some (fileOf pool4 2 #[.nestMembers #[47, 59]] #[] 1537 66 #[] #[])
  fields := #[]
  methods := #[]
  instanceTypes := #[]
  staticTypes := #[]
  resolved := Array.replicate 131 none
  statics := none }

def pool5 : Array CpInfo := pool [(1, .class_ 2), (0, u "java/lang/constant/Constable"), (0, .class_ 4), (0, u "java/lang/Object")] 6

/-- java/lang/constant/Constable -/
def k5 : Class := { plain "java/lang/constant/Constable" (some 0) with
  accessFlags := 1537
  interfaces := #[]
  cf := some (fileOf pool5 1 #[] #[] 1537 3 #[] #[])
  fields := #[]
  methods := #[]
  instanceTypes := #[]
  staticTypes := #[]
  resolved := Array.replicate 11 none
  statics := none }

def pool6 : Array CpInfo := pool [(1, .class_ 2), (0, u "java/lang/constant/ConstantDesc"), (0, .class_ 4), (0, u "java/lang/Object")] 32

/-- java/lang/constant/ConstantDesc -/
def k6 : Class := { plain "java/lang/constant/ConstantDesc" (some 0) with
  accessFlags := 1537
  interfaces := #[]
  cf := some (fileOf pool6 1 #[] #[] 1537 3 #[] #[])
  fields := #[]
  methods := #[]
  instanceTypes := #[]
  staticTypes := #[]
  resolved := Array.replicate 37 none
  statics := none }

def pool7 : Array CpInfo := pool [(1, .methodref 2 3), (0, .class_ 4), (0, .nameAndType 5 6), (0, u "java/lang/Object"), (0, u "<init>"), (0, u "()V"), (2, .fieldref 10 11), (0, .class_ 12), (0, .nameAndType 13 14), (0, u "java/lang/String"), (0, u "value"), (0, u "[B"), (0, .fieldref 10 16), (0, .nameAndType 17 18), (0, u "coder"), (0, u "B"), (2, u "hash"), (0, u "I"), (2, u "hashIsZero"), (0, u "Z"), (0, .methodref 10 28), (0, .nameAndType 5 29), (0, u "([CIILjava/lang/Void;)V"), (8, .fieldref 10 39), (0, .nameAndType 40 26), (0, u "COMPACT_STRINGS"), (1, .class_ 44), (1, u "java/lang/StringUTF16"), (0, u "compress"), (1, .methodref 42 48), (0, .nameAndType 49 50), (0, u "coderFromArrayLen"), (0, u "([BI)B"), (126, .methodref 42 178), (0, .nameAndType 45 179), (0, u "([CII)[B"), (395, .class_ 576), (0, u "java/lang/CharSequence"), (22, u "CASE_INSENSITIVE_ORDER"), (0, u "Ljava/util/Comparator;"), (409, u "([C)V"), (90, u "serialPersistentFields"), (0, u "[Ljava/io/ObjectStreamField;"), (0, .class_ 1104), (0, u "java/lang/String$CaseInsensitiveComparator"), (1, .class_ 1107), (0, u "java/io/Serializable"), (0, .class_ 1109), (0, u "java/lang/Comparable"), (0, .class_ 1111), (0, u "java/lang/constant/Constable"), (0, .class_ 1113), (0, u "java/lang/constant/ConstantDesc"), (2, u "serialVersionUID"), (0, u "J"), (3, u "REPL"), (0, u "C"), (2, u "LATIN1"), (1, u "UTF16")] 323

def k7m0 : Method := { name := "<init>", desc := "()V", sig := { parameters := [], returnType := none }, accessFlags := 1, code := none }
def k7c1 : Code := { maxStack := 5, maxLocals := 2, code := jdk_42_method_3_code, exceptionTable := #[], attributes := #[] }
def k7m1 : Method := { name := "<init>", desc := "([C)V", sig := { parameters := [(.array .char)], returnType := none }, accessFlags := 1, code := some k7c1 }
def k7c2 : Code := { maxStack := 4, maxLocals := 6, code := jdk_42_method_149_code, exceptionTable := #[], attributes := #[] }
def k7m2 : Method := { name := "<init>", desc := "([CIILjava/lang/Void;)V", sig := { parameters := [(.array .char), .int, .int, (.object "java/lang/Void")], returnType := none }, accessFlags := 2, code := some k7c2 }
/-- java/lang/String -/
def k7 : Class := { plain "java/lang/String" (some 0) with
  accessFlags := 49
  interfaces := #[2, 3, 4, 5, 6]
  cf := some (fileOf pool7 10 #[.nestMembers #[1103]] #[{ accessFlags := 1, nameIndex := 5, descriptorIndex := 6, attributes := #[] }, { accessFlags := 1, nameIndex := 5, descriptorIndex := 1010, attributes := #[] }, { accessFlags := 2, nameIndex := 5, descriptorIndex := 29, attributes := #[] }] 49 2 #[1106, 1108, 575, 1110, 1112] #[{ accessFlags := 18, nameIndex := 13, descriptorIndex := 14, attributes := #[] }, { accessFlags := 18, nameIndex := 17, descriptorIndex := 18, attributes := #[] }, { accessFlags := 2, nameIndex := 21, descriptorIndex := 22, attributes := #[] }, { accessFlags := 2, nameIndex := 25, descriptorIndex := 26, attributes := #[] }, { accessFlags := 26, nameIndex := 1116, descriptorIndex := 1117, attributes := #[] }, { accessFlags := 24, nameIndex := 40, descriptorIndex := 26, attributes := #[] }, { accessFlags := 26, nameIndex := 1101, descriptorIndex := 1102, attributes := #[] }, { accessFlags := 26, nameIndex := 1121, descriptorIndex := 1122, attributes := #[] }, { accessFlags := 25, nameIndex := 599, descriptorIndex := 600, attributes := #[] }, { accessFlags := 24, nameIndex := 1125, descriptorIndex := 18, attributes := #[] }, { accessFlags := 24, nameIndex := 1127, descriptorIndex := 18, attributes := #[] }])
  fields := #[{ name := "value", type := (.array .byte), accessFlags := 18, slot := 0, constantValue := 0 }, { name := "coder", type := .byte, accessFlags := 18, slot := 1, constantValue := 0 }, { name := "hash", type := .int, accessFlags := 2, slot := 2, constantValue := 0 }, { name := "hashIsZero", type := .boolean, accessFlags := 2, slot := 3, constantValue := 0 }, { name := "serialVersionUID", type := .long, accessFlags := 26, slot := 0, constantValue := 0 }, { name := "COMPACT_STRINGS", type := .boolean, accessFlags := 24, slot := 1, constantValue := 0 }, { name := "serialPersistentFields", type := (.array (.object "java/io/ObjectStreamField")), accessFlags := 26, slot := 2, constantValue := 0 }, { name := "REPL", type := .char, accessFlags := 26, slot := 3, constantValue := 0 }, { name := "CASE_INSENSITIVE_ORDER", type := (.object "java/util/Comparator"), accessFlags := 25, slot := 4, constantValue := 0 }, { name := "LATIN1", type := .byte, accessFlags := 24, slot := 5, constantValue := 0 }, { name := "UTF16", type := .byte, accessFlags := 24, slot := 6, constantValue := 0 }]
  methods := #[k7m0, k7m1, k7m2]
  instanceTypes := #[(.array .byte), .byte, .int, .boolean]
  staticTypes := #[.long, .boolean, (.array (.object "java/io/ObjectStreamField")), .char, (.object "java/util/Comparator"), .byte, .byte]
  resolved := Array.replicate 1451 none
  statics := some 0 }

def pool8 : Array CpInfo := pool [(6, .class_ 8), (1, u "java/lang/Object"), (0, u "<init>"), (0, u "()V"), (1, .class_ 14), (1, u "java/lang/StringUTF16"), (31, u "$assertionsDisabled"), (0, u "Z"), (13, u "HI_BYTE_SHIFT"), (0, u "I"), (2, u "LO_BYTE_SHIFT"), (49, .methodref 12 116), (0, .nameAndType 117 118), (0, u "compress"), (0, u "([CI[BII)I"), (3, u "([CII)[B"), (138, u "coderFromArrayLen"), (0, u "([BI)B"), (106, .class_ 371), (1, u "java/lang/StringUTF16$LinesSpliterator"), (58, u "MAX_LENGTH"), (196, .class_ 628), (0, u "java/lang/StringUTF16$CodePointsSpliterator"), (0, .class_ 630), (0, u "java/lang/StringUTF16$CharsSpliterator")] 4

def k8m0 : Method := { name := "<init>", desc := "()V", sig := { parameters := [], returnType := none }, accessFlags := 0, code := none }
def k8c1 : Code := { maxStack := 2, maxLocals := 2, code := jdk_52_method_15_code, exceptionTable := #[], attributes := #[] }
def k8m1 : Method := { name := "coderFromArrayLen", desc := "([BI)B", sig := { parameters := [(.array .byte), .int], returnType := some .byte }, accessFlags := 8, code := some k8c1 }
def k8c2 : Code := { maxStack := 5, maxLocals := 6, code := jdk_52_method_16_code, exceptionTable := #[], attributes := #[] }
def k8m2 : Method := { name := "compress", desc := "([CII)[B", sig := { parameters := [(.array .char), .int, .int], returnType := some (.array .byte) }, accessFlags := 9, code := some k8c2 }
def k8c3 : Code := { maxStack := 3, maxLocals := 7, code := jdk_52_method_21_code, exceptionTable := #[], attributes := #[] }
def k8m3 : Method := { name := "compress", desc := "([CI[BII)I", sig := { parameters := [(.array .char), .int, (.array .byte), .int, .int], returnType := some .int }, accessFlags := 9, code := some k8c3 }
/-- java/lang/StringUTF16 -/
def k8 : Class := { plain "java/lang/StringUTF16" (some 0) with
  accessFlags := 48
  interfaces := #[]
  cf := some (fileOf pool8 12 #[.nestMembers #[627, 629, 369]] #[{ accessFlags := 0, nameIndex := 9, descriptorIndex := 10, attributes := #[] }, { accessFlags := 8, nameIndex := 261, descriptorIndex := 262, attributes := #[] }, { accessFlags := 9, nameIndex := 117, descriptorIndex := 122, attributes := #[] }, { accessFlags := 9, nameIndex := 117, descriptorIndex := 118, attributes := #[] }] 48 6 #[] #[{ accessFlags := 26, nameIndex := 61, descriptorIndex := 62, attributes := #[] }, { accessFlags := 26, nameIndex := 65, descriptorIndex := 62, attributes := #[] }, { accessFlags := 24, nameIndex := 430, descriptorIndex := 62, attributes := #[] }, { accessFlags := 4120, nameIndex := 46, descriptorIndex := 47, attributes := #[] }])
  fields := #[{ name := "HI_BYTE_SHIFT", type := .int, accessFlags := 26, slot := 0, constantValue := 0 }, { name := "LO_BYTE_SHIFT", type := .int, accessFlags := 26, slot := 1, constantValue := 0 }, { name := "MAX_LENGTH", type := .int, accessFlags := 24, slot := 2, constantValue := 0 }, { name := "$assertionsDisabled", type := .boolean, accessFlags := 4120, slot := 3, constantValue := 0 }]
  methods := #[k8m0, k8m1, k8m2, k8m3]
  instanceTypes := #[]
  staticTypes := #[.int, .int, .int, .boolean]
  resolved := Array.replicate 635 none
  statics := none }

def pool9 : Array CpInfo := pool [(1, .class_ 2), (0, u "com/example/covenant/covenant/lang/Term"), (4, .class_ 8), (0, u "java/lang/Object"), (0, u "MAX_DEPTH"), (0, u "I"), (2, u "TOO_DEEP"), (0, u "Ljava/lang/String;"), (2, u "SMALL")] 29

/-- com/example/covenant/covenant/lang/Term -/
def k9 : Class := { plain "com/example/covenant/covenant/lang/Term" (some 0) with
  accessFlags := 1537
  interfaces := #[]
  cf := some (fileOf pool9 1 #[] #[] 1537 7 #[] #[{ accessFlags := 25, nameIndex := 9, descriptorIndex := 10, attributes := #[] }, { accessFlags := 25, nameIndex := 13, descriptorIndex := 14, attributes := #[] }, { accessFlags := 25, nameIndex := 17, descriptorIndex := 10, attributes := #[] }])
  fields := #[{ name := "MAX_DEPTH", type := .int, accessFlags := 25, slot := 0, constantValue := 0 }, { name := "TOO_DEEP", type := (.object "java/lang/String"), accessFlags := 25, slot := 1, constantValue := 0 }, { name := "SMALL", type := .int, accessFlags := 25, slot := 2, constantValue := 0 }]
  methods := #[]
  instanceTypes := #[]
  staticTypes := #[.int, (.object "java/lang/String"), .int]
  resolved := Array.replicate 47 none
  statics := none }

def pool10 : Array CpInfo := pool [(1, .methodref 2 3), (0, .class_ 4), (0, .nameAndType 5 6), (0, u "com/example/covenant/covenant/lang/Variable"), (0, u "<init>"), (0, u "(Ljava/lang/String;IJ)V"), (0, .methodref 8 9), (0, .class_ 10), (0, .nameAndType 5 11), (0, u "java/lang/Object"), (0, u "()V"), (0, .fieldref 2 13), (0, .nameAndType 14 15), (0, u "name"), (0, u "Ljava/lang/String;"), (0, .fieldref 2 17), (0, .nameAndType 18 19), (0, u "index"), (0, u "I"), (0, .fieldref 2 21), (0, .nameAndType 22 23), (0, u "scope"), (0, u "J"), (27, u "ORDER"), (0, u "Ljava/util/Comparator;"), (0, .class_ 54), (0, u "com/example/covenant/covenant/lang/Term"), (2, u "(Ljava/lang/String;I)V"), (5, u "inScope"), (0, u "(J)Lcom/example/covenant/covenant/lang/Variable;"), (11, u "equals"), (0, u "(Ljava/lang/Object;)Z")] 26

def k10c0 : Code := { maxStack := 5, maxLocals := 3, code := prog_59_method_1_code, exceptionTable := #[], attributes := #[] }
def k10m0 : Method := { name := "<init>", desc := "(Ljava/lang/String;I)V", sig := { parameters := [(.object "java/lang/String"), .int], returnType := none }, accessFlags := 1, code := some k10c0 }
def k10c1 : Code := { maxStack := 3, maxLocals := 5, code := prog_59_method_2_code, exceptionTable := #[], attributes := #[] }
def k10m1 : Method := { name := "<init>", desc := "(Ljava/lang/String;IJ)V", sig := { parameters := [(.object "java/lang/String"), .int, .long], returnType := none }, accessFlags := 2, code := some k10c1 }
def k10c2 : Code := { maxStack := 6, maxLocals := 3, code := prog_59_method_6_code, exceptionTable := #[], attributes := #[] }
def k10m2 : Method := { name := "inScope", desc := "(J)Lcom/example/covenant/covenant/lang/Variable;", sig := { parameters := [.long], returnType := some (.object "com/example/covenant/covenant/lang/Variable") }, accessFlags := 1, code := some k10c2 }
def k10c3 : Code := { maxStack := 4, maxLocals := 3, code := prog_59_method_17_code, exceptionTable := #[], attributes := #[] }
def k10m3 : Method := { name := "equals", desc := "(Ljava/lang/Object;)Z", sig := { parameters := [(.object "java/lang/Object")], returnType := some .boolean }, accessFlags := 1, code := some k10c3 }
/-- com/example/covenant/covenant/lang/Variable -/
def k10 : Class := { plain "com/example/covenant/covenant/lang/Variable" (some 0) with
  accessFlags := 49
  interfaces := #[9]
  cf := some (fileOf pool10 2 #[] #[{ accessFlags := 1, nameIndex := 5, descriptorIndex := 57, attributes := #[] }, { accessFlags := 2, nameIndex := 5, descriptorIndex := 6, attributes := #[] }, { accessFlags := 1, nameIndex := 63, descriptorIndex := 64, attributes := #[] }, { accessFlags := 1, nameIndex := 76, descriptorIndex := 77, attributes := #[] }] 49 8 #[53] #[{ accessFlags := 25, nameIndex := 51, descriptorIndex := 52, attributes := #[] }, { accessFlags := 18, nameIndex := 14, descriptorIndex := 15, attributes := #[] }, { accessFlags := 18, nameIndex := 18, descriptorIndex := 19, attributes := #[] }, { accessFlags := 18, nameIndex := 22, descriptorIndex := 23, attributes := #[] }])
  fields := #[{ name := "ORDER", type := (.object "java/util/Comparator"), accessFlags := 25, slot := 0, constantValue := 0 }, { name := "name", type := (.object "java/lang/String"), accessFlags := 18, slot := 0, constantValue := 0 }, { name := "index", type := .int, accessFlags := 18, slot := 1, constantValue := 0 }, { name := "scope", type := .long, accessFlags := 18, slot := 2, constantValue := 0 }]
  methods := #[k10m0, k10m1, k10m2, k10m3]
  instanceTypes := #[(.object "java/lang/String"), .int, .long]
  staticTypes := #[(.object "java/util/Comparator")]
  resolved := Array.replicate 104 none
  statics := none }

def pool11 : Array CpInfo := pool [(1, .methodref 2 3), (0, .class_ 4), (0, .nameAndType 5 6), (0, u "java/lang/Object"), (0, u "<init>"), (0, u "()V"), (0, .fieldref 8 9), (0, .class_ 10), (0, .nameAndType 11 12), (0, u "com/example/covenant/covenant/lang/IntegerTerm"), (0, u "value"), (0, u "J"), (14, .class_ 28), (0, u "com/example/covenant/covenant/lang/Term"), (0, u "(J)V")] 22

def k11c0 : Code := { maxStack := 3, maxLocals := 3, code := prog_27_method_1_code, exceptionTable := #[], attributes := #[] }
def k11m0 : Method := { name := "<init>", desc := "(J)V", sig := { parameters := [.long], returnType := none }, accessFlags := 1, code := some k11c0 }
/-- com/example/covenant/covenant/lang/IntegerTerm -/
def k11 : Class := { plain "com/example/covenant/covenant/lang/IntegerTerm" (some 0) with
  accessFlags := 49
  interfaces := #[9]
  cf := some (fileOf pool11 8 #[] #[{ accessFlags := 1, nameIndex := 5, descriptorIndex := 29, attributes := #[] }] 49 2 #[27] #[{ accessFlags := 18, nameIndex := 11, descriptorIndex := 12, attributes := #[] }])
  fields := #[{ name := "value", type := .long, accessFlags := 18, slot := 0, constantValue := 0 }]
  methods := #[k11m0]
  instanceTypes := #[.long]
  staticTypes := #[]
  resolved := Array.replicate 52 none
  statics := none }

def pool12 : Array CpInfo := pool [(4, .class_ 6), (1, u "java/lang/Object"), (0, u "<init>"), (0, u "()V"), (5, .class_ 16), (1, u "java/lang/StringLatin1"), (104, u "$assertionsDisabled"), (0, u "Z"), (98, .class_ 223), (1, u "java/lang/StringLatin1$LinesSpliterator"), (166, .class_ 391), (0, u "java/lang/StringLatin1$CharsSpliterator")] 3

def k12m0 : Method := { name := "<init>", desc := "()V", sig := { parameters := [], returnType := none }, accessFlags := 0, code := none }
/-- java/lang/StringLatin1 -/
def k12 : Class := { plain "java/lang/StringLatin1" (some 0) with
  accessFlags := 48
  interfaces := #[]
  cf := some (fileOf pool12 14 #[.nestMembers #[390, 221]] #[{ accessFlags := 0, nameIndex := 7, descriptorIndex := 8, attributes := #[] }] 48 4 #[] #[{ accessFlags := 4120, nameIndex := 121, descriptorIndex := 122, attributes := #[] }])
  fields := #[{ name := "$assertionsDisabled", type := .boolean, accessFlags := 4120, slot := 0, constantValue := 0 }]
  methods := #[k12m0]
  instanceTypes := #[]
  staticTypes := #[.boolean]
  resolved := Array.replicate 395 none
  statics := none }

def pool13 : Array CpInfo := pool [(2, .class_ 4), (1, u "java/lang/Object"), (0, u "<init>"), (0, u "()V"), (17, .class_ 26), (1, u "jdk/internal/util/Preconditions"), (28, .class_ 56), (0, u "jdk/internal/util/Preconditions$4"), (57, .class_ 115), (0, u "jdk/internal/util/Preconditions$1"), (7, u "SIOOBE_FORMATTER"), (0, u "Ljava/util/function/BiFunction;"), (0, .class_ 126), (0, u "jdk/internal/util/Preconditions$2"), (3, u "AIOOBE_FORMATTER"), (0, .class_ 132), (0, u "jdk/internal/util/Preconditions$3"), (3, u "IOOBE_FORMATTER")] 57

def k13m0 : Method := { name := "<init>", desc := "()V", sig := { parameters := [], returnType := none }, accessFlags := 1, code := none }
/-- jdk/internal/util/Preconditions -/
def k13 : Class := { plain "jdk/internal/util/Preconditions" (some 0) with
  accessFlags := 33
  interfaces := #[]
  cf := some (fileOf pool13 24 #[.nestMembers #[55, 131, 125, 114]] #[{ accessFlags := 1, nameIndex := 5, descriptorIndex := 6, attributes := #[] }] 33 2 #[] #[{ accessFlags := 25, nameIndex := 123, descriptorIndex := 124, attributes := #[] }, { accessFlags := 25, nameIndex := 130, descriptorIndex := 124, attributes := #[] }, { accessFlags := 25, nameIndex := 136, descriptorIndex := 124, attributes := #[] }])
  fields := #[{ name := "SIOOBE_FORMATTER", type := (.object "java/util/function/BiFunction"), accessFlags := 25, slot := 0, constantValue := 0 }, { name := "AIOOBE_FORMATTER", type := (.object "java/util/function/BiFunction"), accessFlags := 25, slot := 1, constantValue := 0 }, { name := "IOOBE_FORMATTER", type := (.object "java/util/function/BiFunction"), accessFlags := 25, slot := 2, constantValue := 0 }]
  methods := #[k13m0]
  instanceTypes := #[]
  staticTypes := #[(.object "java/util/function/BiFunction"), (.object "java/util/function/BiFunction"), (.object "java/util/function/BiFunction")]
  resolved := Array.replicate 194 none
  statics := some 1 }

def pool14 : Array CpInfo := pool [(9, u "<init>"), (6, .class_ 18), (1, u "java/lang/Object"), (0, u "()V"), (1, .class_ 23), (1, u "jdk/internal/util/ArraysSupport"), (0, u "LOG2_ARRAY_LONG_INDEX_SCALE"), (0, u "I"), (2, u "U"), (0, u "Ljdk/internal/misc/Unsafe;"), (8, u "BIG_ENDIAN"), (0, u "Z"), (8, u "LOG2_BYTE_BIT_SIZE"), (4, u "LOG2_ARRAY_INT_INDEX_SCALE"), (54, u "JLA"), (0, u "Ljdk/internal/access/JavaLangAccess;"), (11, u "LOG2_ARRAY_BOOLEAN_INDEX_SCALE"), (9, u "LOG2_ARRAY_BYTE_INDEX_SCALE"), (5, u "LOG2_ARRAY_CHAR_INDEX_SCALE"), (5, u "LOG2_ARRAY_SHORT_INDEX_SCALE"), (18, u "LOG2_ARRAY_FLOAT_INDEX_SCALE"), (24, u "LOG2_ARRAY_DOUBLE_INDEX_SCALE"), (89, u "T_BOOLEAN"), (2, u "T_CHAR"), (1, u "T_FLOAT"), (1, u "T_DOUBLE"), (1, u "T_BYTE"), (1, u "T_SHORT"), (1, u "T_INT"), (1, u "T_LONG"), (1, u "SOFT_MAX_ARRAY_LENGTH")] 83

def k14m0 : Method := { name := "<init>", desc := "()V", sig := { parameters := [], returnType := none }, accessFlags := 2, code := none }
/-- jdk/internal/util/ArraysSupport -/
def k14 : Class := { plain "jdk/internal/util/ArraysSupport" (some 0) with
  accessFlags := 33
  interfaces := #[]
  cf := some (fileOf pool14 21 #[] #[{ accessFlags := 2, nameIndex := 9, descriptorIndex := 19, attributes := #[] }] 33 16 #[] #[{ accessFlags := 24, nameIndex := 28, descriptorIndex := 29, attributes := #[] }, { accessFlags := 26, nameIndex := 38, descriptorIndex := 39, attributes := #[] }, { accessFlags := 25, nameIndex := 121, descriptorIndex := 25, attributes := #[] }, { accessFlags := 25, nameIndex := 131, descriptorIndex := 25, attributes := #[] }, { accessFlags := 25, nameIndex := 137, descriptorIndex := 25, attributes := #[] }, { accessFlags := 25, nameIndex := 143, descriptorIndex := 25, attributes := #[] }, { accessFlags := 25, nameIndex := 53, descriptorIndex := 25, attributes := #[] }, { accessFlags := 25, nameIndex := 24, descriptorIndex := 25, attributes := #[] }, { accessFlags := 25, nameIndex := 162, descriptorIndex := 25, attributes := #[] }, { accessFlags := 25, nameIndex := 187, descriptorIndex := 25, attributes := #[] }, { accessFlags := 26, nameIndex := 48, descriptorIndex := 25, attributes := #[] }, { accessFlags := 25, nameIndex := 277, descriptorIndex := 25, attributes := #[] }, { accessFlags := 25, nameIndex := 280, descriptorIndex := 25, attributes := #[] }, { accessFlags := 25, nameIndex := 282, descriptorIndex := 25, attributes := #[] }, { accessFlags := 25, nameIndex := 284, descriptorIndex := 25, attributes := #[] }, { accessFlags := 25, nameIndex := 286, descriptorIndex := 25, attributes := #[] }, { accessFlags := 25, nameIndex := 288, descriptorIndex := 25, attributes := #[] }, { accessFlags := 25, nameIndex := 290, descriptorIndex := 25, attributes := #[] }, { accessFlags := 25, nameIndex := 292, descriptorIndex := 25, attributes := #[] }, { accessFlags := 26, nameIndex := 108, descriptorIndex := 109, attributes := #[] }, { accessFlags := 25, nameIndex := 294, descriptorIndex := 25, attributes := #[] }])
  fields := #[{ name := "U", type := (.object "jdk/internal/misc/Unsafe"), accessFlags := 24, slot := 0, constantValue := 0 }, { name := "BIG_ENDIAN", type := .boolean, accessFlags := 26, slot := 1, constantValue := 0 }, { name := "LOG2_ARRAY_BOOLEAN_INDEX_SCALE", type := .int, accessFlags := 25, slot := 2, constantValue := 0 }, { name := "LOG2_ARRAY_BYTE_INDEX_SCALE", type := .int, accessFlags := 25, slot := 3, constantValue := 0 }, { name := "LOG2_ARRAY_CHAR_INDEX_SCALE", type := .int, accessFlags := 25, slot := 4, constantValue := 0 }, { name := "LOG2_ARRAY_SHORT_INDEX_SCALE", type := .int, accessFlags := 25, slot := 5, constantValue := 0 }, { name := "LOG2_ARRAY_INT_INDEX_SCALE", type := .int, accessFlags := 25, slot := 6, constantValue := 0 }, { name := "LOG2_ARRAY_LONG_INDEX_SCALE", type := .int, accessFlags := 25, slot := 7, constantValue := 0 }, { name := "LOG2_ARRAY_FLOAT_INDEX_SCALE", type := .int, accessFlags := 25, slot := 8, constantValue := 0 }, { name := "LOG2_ARRAY_DOUBLE_INDEX_SCALE", type := .int, accessFlags := 25, slot := 9, constantValue := 0 }, { name := "LOG2_BYTE_BIT_SIZE", type := .int, accessFlags := 26, slot := 10, constantValue := 0 }, { name := "T_BOOLEAN", type := .int, accessFlags := 25, slot := 11, constantValue := 0 }, { name := "T_CHAR", type := .int, accessFlags := 25, slot := 12, constantValue := 0 }, { name := "T_FLOAT", type := .int, accessFlags := 25, slot := 13, constantValue := 0 }, { name := "T_DOUBLE", type := .int, accessFlags := 25, slot := 14, constantValue := 0 }, { name := "T_BYTE", type := .int, accessFlags := 25, slot := 15, constantValue := 0 }, { name := "T_SHORT", type := .int, accessFlags := 25, slot := 16, constantValue := 0 }, { name := "T_INT", type := .int, accessFlags := 25, slot := 17, constantValue := 0 }, { name := "T_LONG", type := .int, accessFlags := 25, slot := 18, constantValue := 0 }, { name := "JLA", type := (.object "jdk/internal/access/JavaLangAccess"), accessFlags := 26, slot := 19, constantValue := 0 }, { name := "SOFT_MAX_ARRAY_LENGTH", type := .int, accessFlags := 25, slot := 20, constantValue := 0 }]
  methods := #[k14m0]
  instanceTypes := #[]
  staticTypes := #[(.object "jdk/internal/misc/Unsafe"), .boolean, .int, .int, .int, .int, .int, .int, .int, .int, .int, .int, .int, .int, .int, .int, .int, .int, .int, (.object "jdk/internal/access/JavaLangAccess"), .int]
  resolved := Array.replicate 378 none
  statics := none }

def pool15 : Array CpInfo := pool [(1, u "java/lang/Cloneable"), (0, .class_ 1), (0, u "java/lang/Object"), (0, .class_ 3)] 3

/-- java/lang/Cloneable -/
def k15 : Class := { plain "java/lang/Cloneable" (some 0) with
  accessFlags := 1537
  interfaces := #[]
  cf := some (fileOf pool15 2 #[] #[] 1537 4 #[] #[])
  fields := #[]
  methods := #[]
  instanceTypes := #[]
  staticTypes := #[]
  resolved := Array.replicate 8 none
  statics := none }

/-- the primitive byte -/
def k16 : Class := { plain "byte" none with kind := .primitive 'B', accessFlags := 0x411 }
/-- [B -/
def k17 : Class := { plain "[B" (some 0) with kind := .array 16 .byte, interfaces := #[15, 2], accessFlags := 1041 }

/-- the primitive char -/
def k18 : Class := { plain "char" none with kind := .primitive 'C', accessFlags := 0x411 }
/-- [C -/
def k19 : Class := { plain "[C" (some 0) with kind := .array 18 .char, interfaces := #[15, 2], accessFlags := 1041 }

/-- the primitive int -/
def k20 : Class := { plain "int" none with kind := .primitive 'I', accessFlags := 0x411 }
/-- [I -/
def k21 : Class := { plain "[I" (some 0) with kind := .array 20 .int, interfaces := #[15, 2], accessFlags := 1041 }

def heap : Heap := #[{ cls := 7, slots := #[.long 0, .int 1, .null, .int 0, .null, .int 0, .int 0], vm := .statics 7 },
  { cls := 13, slots := #[.null, .null, .null], vm := .statics 13 }]
def classes : Array Class := #[k0, k1, k2, k3, k4, k5, k6, k7, k8, k9, k10, k11, k12, k13, k14, k15, k16, k17, k18, k19, k20, k21]
def interned : List (Array UInt16 × Addr) := []
def slotsUsed : Nat := 10
def theMethod : MethodId := ⟨1, 1⟩
def args0 : Array Value := #[.int 5, .int 7, .long 1, .long 2, .int 16705, .int 0]
def aboutOver (below : List Frame) : State where
  vm := { classes := classes, interned := interned.toArray }
  heap := heap
  slotsUsed := slotsUsed
  threads := #[{ frames := .invoking theMethod args0 :: below }]
def below0 : List Frame := [.native { method := ⟨0, 0⟩, args := #[] }]
def about1 : State := aboutOver below0
def p0 : Program := .bare "" "" ""
def e0 : Env := launch0.env 0 0 0
theorem w_frames : about1.frames = Frame.invoking theMethod args0 :: below0 := rfl
set_option maxRecDepth 65536 in
theorem w_args : argsFit about1.vm theMethod args0 = true := by decide +kernel
set_option maxRecDepth 65536 in
theorem w_heap : heapFits about1 = true := by decide +kernel
set_option maxRecDepth 65536 in
theorem w_runnable : about1.curStatus? = some .runnable := by decide +kernel
set_option maxRecDepth 65536 in
theorem w_alone : about1.alone = true := by decide +kernel
set_option maxRecDepth 65536 in
theorem w_named : about1.methodNamed? x = some theMethod := by decide +kernel
set_option maxRecDepth 65536 in
theorem w_hears : about1.hears theMethod below0 = true := by decide +kernel
set_option maxRecDepth 65536 in
theorem w_ripe : about1.ripe theMethod args0 below0 = true := by decide +kernel
theorem w_running : about1.status = .running := rfl
set_option maxRecDepth 65536 in
theorem w_room : about1.hasRoom e0.platform room_1 = true :=
  launch0.hasRoom_least _ room_1 (by decide +kernel) (by decide +kernel) (by decide +kernel) (by decide +kernel) (by decide +kernel) (by decide +kernel)
theorem allAtoms_all (ts : List Jvm.Cond) (a : Array Jvm.Value) (st : Jvm.State) : (allAtoms ts).before a st = ts.all (fun c => c.before a st) := by
  induction ts with
  | nil => rfl
  | cons c t ih =>
    show (Jvm.Cond.and c (allAtoms t)).before a st = _
    rw [Jvm.Cond.before_and, ih, List.all_cons]
def words1 : List Jvm.Cond := Jvm.Cond.code x code maxLocals ret :: tables_1
/-- a 'code' word, met by the world's own term for the bytes: nothing is compared byte by byte -/
theorem code_word {y : MethodName} {bytes : ByteArray} {mx : Nat} {rt : Option FieldType} {a : Array Value} {s : State} {m : MethodId} {meth : Method} {c : Code} (h1 : s.methodNamed? y = some m) (h2 : s.vm.method? m = some meth) (h3 : meth.code = some c) (h4 : c.code = bytes)
    (h5 : (c.maxLocals == mx && c.exceptionTable.isEmpty && decide (c.maxStack ≤ mostOperands) && decide (meth.sig.returnType = rt) && !meth.locks && decide (parseMethodDescriptor y.desc = some meth.sig)) = true) : (Jvm.Cond.code y bytes mx rt).before a s = true := by
  simp only [Bool.and_eq_true, beq_iff_eq, Bool.not_eq_true', decide_eq_true_eq] at h5
  obtain ⟨⟨⟨⟨⟨g1, g2⟩, g3⟩, g4⟩, g5⟩, g6⟩ := h5
  simp [Cond.before, Cond.holds, Cond.value, h1, h2, h3, h4, g1, g2, g3, g4, g5, g6]
def isCode : Jvm.Cond → Bool
  | .code _ _ _ _ => true
  | _ => false
theorem all_split {L : List Jvm.Cond} {P : Jvm.Cond → Bool} (h1 : L.all (fun c => isCode c || P c) = true) (h2 : ∀ c ∈ L.filter isCode, P c = true) : L.all P = true := by
  refine List.all_eq_true.mpr fun c hc => ?_
  have h := List.all_eq_true.mp h1 c hc
  rcases Bool.eq_false_or_eq_true (isCode c) with hi | hi
  · exact h2 c (List.mem_filter.mpr ⟨hc, hi⟩)
  · simpa [hi] using h
set_option maxRecDepth 65536 in
theorem w_c0 : (Jvm.Cond.code x code maxLocals ret).before args0 about1 = true := code_word (m := ⟨1, 1⟩) (meth := k1m1) (c := k1c1) (by decide +kernel) rfl rfl rfl (by decide +kernel)
set_option maxRecDepth 65536 in
theorem w_c1 : (Jvm.Cond.code ({ cls := "java/lang/String", name := "<init>", desc := "([C)V" } : Jvm.MethodName) jdk_42_method_3_code (2 : Nat) (Option.none : Option Jvm.ClassFile.FieldType)).before args0 about1 = true := code_word (m := ⟨7, 1⟩) (meth := k7m1) (c := k7c1) (by decide +kernel) rfl rfl rfl (by decide +kernel)
set_option maxRecDepth 65536 in
theorem w_c2 : (Jvm.Cond.code ({ cls := "java/lang/String", name := "<init>", desc := "([CIILjava/lang/Void;)V" } : Jvm.MethodName) jdk_42_method_149_code (6 : Nat) (Option.none : Option Jvm.ClassFile.FieldType)).before args0 about1 = true := code_word (m := ⟨7, 2⟩) (meth := k7m2) (c := k7c2) (by decide +kernel) rfl rfl rfl (by decide +kernel)
set_option maxRecDepth 65536 in
theorem w_c3 : (Jvm.Cond.code ({ cls := "java/lang/Object", name := "<init>", desc := "()V" } : Jvm.MethodName) object_method_1_code (1 : Nat) (Option.none : Option Jvm.ClassFile.FieldType)).before args0 about1 = true := code_word (m := ⟨0, 0⟩) (meth := k0m0) (c := k0c0) (by decide +kernel) rfl rfl rfl (by decide +kernel)
set_option maxRecDepth 65536 in
theorem w_c4 : (Jvm.Cond.code ({ cls := "java/lang/StringUTF16", name := "compress", desc := "([CII)[B" } : Jvm.MethodName) jdk_52_method_16_code (6 : Nat) (Option.some (Jvm.ClassFile.FieldType.array Jvm.ClassFile.FieldType.byte))).before args0 about1 = true := code_word (m := ⟨8, 2⟩) (meth := k8m2) (c := k8c2) (by decide +kernel) rfl rfl rfl (by decide +kernel)
set_option maxRecDepth 65536 in
theorem w_c5 : (Jvm.Cond.code ({ cls := "java/lang/StringUTF16", name := "compress", desc := "([CI[BII)I" } : Jvm.MethodName) jdk_52_method_21_code (7 : Nat) (Option.some Jvm.ClassFile.FieldType.int)).before args0 about1 = true := code_word (m := ⟨8, 3⟩) (meth := k8m3) (c := k8c3) (by decide +kernel) rfl rfl rfl (by decide +kernel)
set_option maxRecDepth 65536 in
theorem w_c6 : (Jvm.Cond.code ({ cls := "java/lang/StringUTF16", name := "coderFromArrayLen", desc := "([BI)B" } : Jvm.MethodName) jdk_52_method_15_code (2 : Nat) (Option.some Jvm.ClassFile.FieldType.byte)).before args0 about1 = true := code_word (m := ⟨8, 1⟩) (meth := k8m1) (c := k8c1) (by decide +kernel) rfl rfl rfl (by decide +kernel)
set_option maxRecDepth 65536 in
theorem w_c7 : (Jvm.Cond.code ({ cls := "com/example/covenant/covenant/lang/Variable", name := "<init>", desc := "(Ljava/lang/String;I)V" } : Jvm.MethodName) prog_59_method_1_code (3 : Nat) (Option.none : Option Jvm.ClassFile.FieldType)).before args0 about1 = true := code_word (m := ⟨10, 0⟩) (meth := k10m0) (c := k10c0) (by decide +kernel) rfl rfl rfl (by decide +kernel)
set_option maxRecDepth 65536 in
theorem w_c8 : (Jvm.Cond.code ({ cls := "com/example/covenant/covenant/lang/Variable", name := "<init>", desc := "(Ljava/lang/String;IJ)V" } : Jvm.MethodName) prog_59_method_2_code (5 : Nat) (Option.none : Option Jvm.ClassFile.FieldType)).before args0 about1 = true := code_word (m := ⟨10, 1⟩) (meth := k10m1) (c := k10c1) (by decide +kernel) rfl rfl rfl (by decide +kernel)
set_option maxRecDepth 65536 in
theorem w_c9 : (Jvm.Cond.code ({ cls := "com/example/covenant/covenant/lang/Variable", name := "inScope", desc := "(J)Lcom/example/covenant/covenant/lang/Variable;" } : Jvm.MethodName) prog_59_method_6_code (3 : Nat) (Option.some (Jvm.ClassFile.FieldType.object "com/example/covenant/covenant/lang/Variable"))).before args0 about1 = true := code_word (m := ⟨10, 2⟩) (meth := k10m2) (c := k10c2) (by decide +kernel) rfl rfl rfl (by decide +kernel)
set_option maxRecDepth 65536 in
theorem w_c10 : (Jvm.Cond.code ({ cls := "com/example/covenant/covenant/lang/Variable", name := "equals", desc := "(Ljava/lang/Object;)Z" } : Jvm.MethodName) prog_59_method_17_code (3 : Nat) (Option.some Jvm.ClassFile.FieldType.boolean)).before args0 about1 = true := code_word (m := ⟨10, 3⟩) (meth := k10m3) (c := k10c3) (by decide +kernel) rfl rfl rfl (by decide +kernel)
set_option maxRecDepth 65536 in
theorem w_c11 : (Jvm.Cond.code ({ cls := "com/example/covenant/covenant/lang/IntegerTerm", name := "<init>", desc := "(J)V" } : Jvm.MethodName) prog_27_method_1_code (3 : Nat) (Option.none : Option Jvm.ClassFile.FieldType)).before args0 about1 = true := code_word (m := ⟨11, 0⟩) (meth := k11m0) (c := k11c0) (by decide +kernel) rfl rfl rfl (by decide +kernel)
def codes1 : List Jvm.Cond := [Jvm.Cond.code x code maxLocals ret, Jvm.Cond.code ({ cls := "java/lang/String", name := "<init>", desc := "([C)V" } : Jvm.MethodName) jdk_42_method_3_code (2 : Nat) (Option.none : Option Jvm.ClassFile.FieldType), Jvm.Cond.code ({ cls := "java/lang/String", name := "<init>", desc := "([CIILjava/lang/Void;)V" } : Jvm.MethodName) jdk_42_method_149_code (6 : Nat) (Option.none : Option Jvm.ClassFile.FieldType), Jvm.Cond.code ({ cls := "java/lang/Object", name := "<init>", desc := "()V" } : Jvm.MethodName) object_method_1_code (1 : Nat) (Option.none : Option Jvm.ClassFile.FieldType), Jvm.Cond.code ({ cls := "java/lang/StringUTF16", name := "compress", desc := "([CII)[B" } : Jvm.MethodName) jdk_52_method_16_code (6 : Nat) (Option.some (Jvm.ClassFile.FieldType.array Jvm.ClassFile.FieldType.byte)), Jvm.Cond.code ({ cls := "java/lang/StringUTF16", name := "compress", desc := "([CI[BII)I" } : Jvm.MethodName) jdk_52_method_21_code (7 : Nat) (Option.some Jvm.ClassFile.FieldType.int), Jvm.Cond.code ({ cls := "java/lang/StringUTF16", name := "coderFromArrayLen", desc := "([BI)B" } : Jvm.MethodName) jdk_52_method_15_code (2 : Nat) (Option.some Jvm.ClassFile.FieldType.byte), Jvm.Cond.code ({ cls := "com/example/covenant/covenant/lang/Variable", name := "<init>", desc := "(Ljava/lang/String;I)V" } : Jvm.MethodName) prog_59_method_1_code (3 : Nat) (Option.none : Option Jvm.ClassFile.FieldType), Jvm.Cond.code ({ cls := "com/example/covenant/covenant/lang/Variable", name := "<init>", desc := "(Ljava/lang/String;IJ)V" } : Jvm.MethodName) prog_59_method_2_code (5 : Nat) (Option.none : Option Jvm.ClassFile.FieldType), Jvm.Cond.code ({ cls := "com/example/covenant/covenant/lang/Variable", name := "inScope", desc := "(J)Lcom/example/covenant/covenant/lang/Variable;" } : Jvm.MethodName) prog_59_method_6_code (3 : Nat) (Option.some (Jvm.ClassFile.FieldType.object "com/example/covenant/covenant/lang/Variable")), Jvm.Cond.code ({ cls := "com/example/covenant/covenant/lang/Variable", name := "equals", desc := "(Ljava/lang/Object;)Z" } : Jvm.MethodName) prog_59_method_17_code (3 : Nat) (Option.some Jvm.ClassFile.FieldType.boolean), Jvm.Cond.code ({ cls := "com/example/covenant/covenant/lang/IntegerTerm", name := "<init>", desc := "(J)V" } : Jvm.MethodName) prog_27_method_1_code (3 : Nat) (Option.none : Option Jvm.ClassFile.FieldType)]
set_option maxRecDepth 65536 in
theorem codes_eq : words1.filter isCode = codes1 := rfl
theorem w_codes : ∀ c ∈ words1.filter isCode, c.before args0 about1 = true := by
  rw [codes_eq]
  intro c hc
  simp only [codes1, List.mem_cons, List.not_mem_nil, or_false] at hc
  rcases hc with rfl | rfl | rfl | rfl | rfl | rfl | rfl | rfl | rfl | rfl | rfl | rfl
  · exact w_c0
  · exact w_c1
  · exact w_c2
  · exact w_c3
  · exact w_c4
  · exact w_c5
  · exact w_c6
  · exact w_c7
  · exact w_c8
  · exact w_c9
  · exact w_c10
  · exact w_c11
set_option maxRecDepth 65536 in
theorem w_t1 : (words1.take 24).all (fun c => isCode c || c.before args0 about1) = true := by decide +kernel
set_option maxRecDepth 65536 in
theorem w_t2 : ((words1.drop 24).take 24).all (fun c => isCode c || c.before args0 about1) = true := by decide +kernel
set_option maxRecDepth 65536 in
theorem w_t3 : ((words1.drop 24).drop 24).all (fun c => isCode c || c.before args0 about1) = true := by decide +kernel
theorem w_tables : (allAtoms (Jvm.Cond.code x code maxLocals ret :: tables_1)).before args0 about1 = true := by
  rw [allAtoms_all]
  show words1.all (fun c => c.before args0 about1) = true
  refine all_split ?_ w_codes
  rw [← List.take_append_drop 24 words1, List.all_append, w_t1, ← List.take_append_drop 24 (words1.drop 24), List.all_append, w_t2, w_t3]
  rfl
set_option maxRecDepth 65536 in
theorem w_rest : rest_1_c.before args0 about1 = true := by decide +kernel
set_option maxRecDepth 65536 in
theorem w_case : (Jvm.Cond.and given_1 narrow_1).before args0 about1 = true := by decide +kernel
theorem w_applies : (headSpec (Jvm.Cond.code x code maxLocals ret :: tables_1) room_1).applies x e0.platform about1 = true :=
  (Spec.applies_iff w_frames).mpr ⟨w_running, w_runnable, w_alone, w_named, w_hears, w_ripe, w_room, w_tables⟩
theorem atStart : AtStart classFile x code maxLocals ret World_1 tables_1 room_1 Calls_1 rest_1 Pre_1 launch0 p0 e0 about1 theMethod args0 below0 :=
  ⟨lists_1, trivial, launch0.admits_env _ _ _, launch0.least_env, fairChoices_fair.cas, fairChoices_fair.clock, w_frames, w_args, w_heap, w_applies, trivial, w_rest, w_case⟩
end start1
theorem witness_1 : WitnessClaimed_1 := ⟨start1.p0, start1.e0, start1.about1, start1.theMethod, start1.args0, start1.below0, start1.atStart⟩
end Jvm.Pilot.@@N@@
