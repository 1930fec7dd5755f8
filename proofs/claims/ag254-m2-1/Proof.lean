import JvmDerived
import JvmDerived.Pilot.@@N@@Statement
import JvmDerived.Pilot.@@N@@Code
set_option linter.unusedVariables false
set_option linter.unusedSimpArgs false
/- laws to paste: Road.backV, Road.eqW, Road.codOf (cut by pick.py; bodies as the Statement names them) -/
namespace Jvm.Pilot.@@N@@
namespace StrChars
open Jvm Sem ClassFile Op Lib Jvm.Stand Jvm.Free.XT Jvm.Free.ALB Jvm.Free.JM Jvm.Free
open Jvm.Lib.Cold (StaticIs)
/-- a char array whose places are chars -/
def Ch (a : Addr) (A : Cell) (U : State) : Prop := Arr .char a A U ∧ Typed .char A
theorem Ch.mv {a : Addr} {A : Cell} {U U' : State} (h : Ch a A U) (hal : U.vm.Alike U'.vm) (hh : U'.heap = U.heap) : Ch a A U' := ⟨h.1.mv hal hh, h.2⟩
theorem Ch.keep {a : Addr} {A : Cell} {U U' : State} (h : Ch a A U) (hal : U.vm.Alike U'.vm) (hk : U'.heap[a]? = some A) : Ch a A U' := ⟨h.1.keep hal hk, h.2⟩
/-- what place i of a char[]'s cell holds -/
def cv (A : Cell) (i : Nat) : Int32 := match A.slots[i]? with | some (.int x) => x | _ => 0
theorem Ch.get {a : Addr} {A : Cell} {U : State} (h : Ch a A U) {i : Nat} (hi : i < A.slots.size) : A.slots[i]? = some (.int (cv A i)) := by
  have e := Array.getElem?_eq_getElem hi
  have f := h.2 i _ e
  unfold cv; rw [e]
  generalize A.slots[i] = v at f
  cases v <;> simp [fits] at f ⊢
/-- the byte that i2b leaves of a char -/
def lo8 (x : Int32) : Int32 := x.toInt8.toInt32
theorem fits_lo8 (y : Int32) : fits .byte (.int (lo8 y)) = true := by
  have h1 := y.toInt8.le_toInt
  have h2 := y.toInt8.toInt_lt
  simp only [lo8, fits, Bool.and_eq_true, decide_eq_true_eq, Int32.le_iff_toInt_le, Int8.toInt_toInt32, show (-128 : Int32).toInt = -128 from by decide, show (127 : Int32).toInt = 127 from by decide]
  omega
/-- A' is A but that each place j of lo .. hi - 1 holds f j -/
def Laid (A A' : Cell) (lo hi : Nat) (f : Nat → Value) : Prop := A'.cls = A.cls ∧ A'.vm = A.vm ∧ A'.slots.size = A.slots.size ∧ ∀ i, A'.slots[i]? = if lo ≤ i ∧ i < hi then some (f i) else A.slots[i]?
theorem Laid.zero (A : Cell) (lo : Nat) (f : Nat → Value) : Laid A A lo (lo + 0) f := ⟨rfl, rfl, rfl, fun i => by rw [if_neg (by omega)]⟩
theorem Laid.step {A Ak : Cell} {lo k : Nat} {f : Nat → Value} {v : Value} (h : Laid A Ak lo k f) (hlo : lo ≤ k) (hk : k < Ak.slots.size) (hv : v = f k) : Laid A (Ak.setSlot k v) lo (k + 1) f := by
  refine ⟨h.1, h.2.1, by simpa [Cell.setSlot] using h.2.2.1, fun i => ?_⟩
  by_cases e : k = i
  · subst e; rw [Cell.slots_setSlot_self v hk, if_pos (by omega), hv]
  · rw [Cell.slots_setSlot_ne v e, h.2.2.2 i]
    by_cases q : lo ≤ i ∧ i < k
    · rw [if_pos q, if_pos (by omega)]
    · rw [if_neg q, if_neg (by omega)]
def U16 : String := "java/lang/StringUTF16"
namespace Cmp5
def yN : MethodName := ⟨"java/lang/StringUTF16", "compress", "([CI[BII)I"⟩
abbrev yB : ByteArray := jdk_52_method_21_code
theorem d0 : decode yB 0 = .ok (.iconst 0, 1) := by decide +kernel
theorem d1 : decode yB 1 = .ok (.istore 5, 2) := by decide +kernel
theorem d3 : decode yB 3 = .ok (.iload 5, 2) := by decide +kernel
theorem d5 : decode yB 5 = .ok (.iload 4, 2) := by decide +kernel
theorem d7 : decode yB 7 = .ok (.if_icmp (.ge) 37, 3) := by decide +kernel
theorem d10 : decode yB 10 = .ok (.aload_n 0, 1) := by decide +kernel
theorem d11 : decode yB 11 = .ok (.iload_n 1, 1) := by decide +kernel
theorem d12 : decode yB 12 = .ok (.caload, 1) := by decide +kernel
theorem d13 : decode yB 13 = .ok (.istore 6, 2) := by decide +kernel
theorem d15 : decode yB 15 = .ok (.iload 6, 2) := by decide +kernel
theorem d17 : decode yB 17 = .ok (.sipush 255, 3) := by decide +kernel
theorem d20 : decode yB 20 = .ok (.if_icmp (.le) 6, 3) := by decide +kernel
theorem d26 : decode yB 26 = .ok (.aload_n 2, 1) := by decide +kernel
theorem d27 : decode yB 27 = .ok (.iload_n 3, 1) := by decide +kernel
theorem d28 : decode yB 28 = .ok (.iload 6, 2) := by decide +kernel
theorem d30 : decode yB 30 = .ok (.i2b, 1) := by decide +kernel
theorem d31 : decode yB 31 = .ok (.bastore, 1) := by decide +kernel
theorem d32 : decode yB 32 = .ok (.iinc 1 1, 3) := by decide +kernel
theorem d35 : decode yB 35 = .ok (.iinc 3 1, 3) := by decide +kernel
theorem d38 : decode yB 38 = .ok (.iinc 5 1, 3) := by decide +kernel
theorem d41 : decode yB 41 = .ok (.goto (-38), 3) := by decide +kernel
theorem d44 : decode yB 44 = .ok (.iload 4, 2) := by decide +kernel
theorem d46 : decode yB 46 = .ok (.ireturn, 1) := by decide +kernel
def site : List Cond := []
def tab : Cond := tabOf yN yB 7 (some .int) site
def P (b : Addr) (A : Cell) (d : Addr) (B : Cell) (o q len : Nat) (args : Array Value) (s : State) : Prop := args = #[.ref b, .int (Int32.ofNat o), .ref d, .int (Int32.ofNat q), .int (Int32.ofNat len)] ∧ Ch b A s ∧ Arr .byte d B s ∧ b ≠ d ∧ o + len ≤ A.slots.size ∧ q + len ≤ B.slots.size ∧ ∀ i, i < len → ¬ 255 < cv A (o + i)
def E (b : Addr) (A : Cell) (d : Addr) (B : Cell) (o q len : Nat) (r : Option Value) (s u : State) : Prop := r = some (.int (Int32.ofNat len)) ∧ ∃ B', Put d B' s u ∧ Laid B B' q (q + len) (fun j => Value.int (lo8 (cv A (o + (j - q)))))
/-- no char of the range above 255: len; the places written hold each char's low byte -/
theorem law (l : Launch) (b : Addr) (A : Cell) (d : Addr) (B : Cell) (o q len : Nat) : Law l yN 5 5 0 0 yB 7 (some .int) site (P b A d B o q len) (E b A d B o q len) (copyLocs d q len) 0 0 := by
  refine Law.of_walk (plainFor_of_name (by decide +kernel)) (by decide +kernel) (by decide +kernel) (by decide) (fun _ _ h => by rw [h.1]; rfl) (fun _ U U' hal hh h => ⟨h.1, h.2.1.mv hal hh, h.2.2.1.mv hal hh, h.2.2.2⟩) (fun r U U' V V' h1 hal h2 h => ⟨h.1, h.2.elim fun B' q => ⟨B', q.1.mv h1 h2, q.2⟩⟩) ?_
  intro p e s m args below meth c s₁ X0 hexec hbytes hml hret hlk hnm hown hh0 W hP
  obtain ⟨rfl, hA, hB, hne, l1, l2, hp⟩ := hP
  have c1 : Steps p.tables e below (s₁.setTop (entryFrame m #[.ref b, .int (Int32.ofNat o), .ref d, .int (Int32.ofNat q), .int (Int32.ofNat len)] 7)) (s₁.setTop (mkF m 0 #[.val (.ref b), .val (.int (Int32.ofNat o)), .val (.ref d), .val (.int (Int32.ofNat q)), .val (.int (Int32.ofNat len)), .unset, .unset] [])) := entry rfl
  have hA0 := hA.1.mv X0.warmed.alike hh0
  have hB0 := hB.mv X0.warmed.alike hh0
  have a31 := hA.1.2.2.2
  have c2 : Steps p.tables e below (s₁.setTop (entryFrame m #[.ref b, .int (Int32.ofNat o), .ref d, .int (Int32.ofNat q), .int (Int32.ofNat len)] 7)) (s₁.setTop (mkF m 3 #[.val (.ref b), .val (.int (Int32.ofNat o)), .val (.ref d), .val (.int (Int32.ofNat q)), .val (.int (Int32.ofNat len)), .val (.int 0), .unset] [])) := c1.trans (by
    refine iconstV X0.here hexec rfl 0 (hb hbytes d0) (by decide) ?_
    refine XS.istore X0.here hexec rfl (hb hbytes d1) rfl rfl ?_
    exact Steps.refl _)
  have loop : ∀ (r i : Nat), i + r = len → ∀ (z : Slot), (z = .unset ∨ ∃ w, z = .val w ∧ w.category = 1) → ∀ (Tl : State) (Bk : Cell), Stand p l e { frames := 0, locals := 0, cells := 0, slots := 0 } s m #[.ref b, .int (Int32.ofNat o), .ref d, .int (Int32.ofNat q), .int (Int32.ofNat len)] below meth c Tl ([] ++ copyLocs d q i) 0 0 → Put d Bk s₁ Tl → Laid B Bk q (q + i) (fun j => Value.int (lo8 (cv A (o + (j - q))))) →
      Steps p.tables e below (s₁.setTop (entryFrame m #[.ref b, .int (Int32.ofNat o), .ref d, .int (Int32.ofNat q), .int (Int32.ofNat len)] 7)) (Tl.setTop (mkF m 3 #[.val (.ref b), .val (.int (Int32.ofNat (o + i))), .val (.ref d), .val (.int (Int32.ofNat (q + i))), .val (.int (Int32.ofNat len)), .val (.int (Int32.ofNat i)), z] [])) → ∃ (T' : State) (B' : Cell) (z' : Slot), Stand p l e { frames := 0, locals := 0, cells := 0, slots := 0 } s m #[.ref b, .int (Int32.ofNat o), .ref d, .int (Int32.ofNat q), .int (Int32.ofNat len)] below meth c T' ([] ++ copyLocs d q len) 0 0 ∧ Put d B' s₁ T' ∧ Laid B B' q (q + len) (fun j => Value.int (lo8 (cv A (o + (j - q))))) ∧
      Steps p.tables e below (s₁.setTop (entryFrame m #[.ref b, .int (Int32.ofNat o), .ref d, .int (Int32.ofNat q), .int (Int32.ofNat len)] 7)) (T'.setTop (mkF m 3 #[.val (.ref b), .val (.int (Int32.ofNat (o + len))), .val (.ref d), .val (.int (Int32.ofNat (q + len))), .val (.int (Int32.ofNat len)), .val (.int (Int32.ofNat len)), z'] [])) := by
    intro r
    induction r with
    | zero =>
      intro i hi z hz Tl Bk Xl pl fl cl
      have hil : i = len := by omega
      rw [hil] at Xl fl cl
      exact ⟨Tl, Bk, z, Xl, pl, fl, cl⟩
    | succ r ih =>
      intro i hi z hz Tl Bk Xl pl fl cl
      have all := X0.warmed.alike.symm.trans Xl.warmed.alike
      have hAl := hA0.keep all (pl.other hne hA0.1)
      have hBk := hB0.like all pl.1 fl.1 fl.2.1 fl.2.2.1
      have hlt : q + i < Bk.slots.size := by rw [fl.2.2.1]; omega
      have c3 : Steps p.tables e below (s₁.setTop (entryFrame m #[.ref b, .int (Int32.ofNat o), .ref d, .int (Int32.ofNat q), .int (Int32.ofNat len)] 7)) (Tl.setTop (mkF m 12 #[.val (.ref b), .val (.int (Int32.ofNat (o + i))), .val (.ref d), .val (.int (Int32.ofNat (q + i))), .val (.int (Int32.ofNat len)), .val (.int (Int32.ofNat i)), z] [.int (Int32.ofNat (o + i)), .ref b])) := cl.trans (by
        refine XS.iload Xl.here hexec rfl (hb hbytes d3) rfl ?_
        refine XS.iload Xl.here hexec rfl (hb hbytes d5) rfl ?_
        refine XS.icmpNo Xl.here hexec rfl (hb hbytes d7) rfl (ii_ge_f (lt32 (by omega) (by omega))) ?_
        refine XS.aloadN Xl.here hexec rfl (hb hbytes d10) rfl rfl ?_
        refine XS.iloadN Xl.here hexec rfl (hb hbytes d11) rfl ?_
        exact Steps.refl _)
      have c4 : Steps p.tables e below (s₁.setTop (entryFrame m #[.ref b, .int (Int32.ofNat o), .ref d, .int (Int32.ofNat q), .int (Int32.ofNat len)] 7)) (Tl.setTop (mkF m 13 #[.val (.ref b), .val (.int (Int32.ofNat (o + i))), .val (.ref d), .val (.int (Int32.ofNat (q + i))), .val (.int (Int32.ofNat len)), .val (.int (Int32.ofNat i)), z] [.int (cv A (o + i))])) := c3.trans (by
        refine Xl.aget hexec hAl rfl (hA.get (i := o + i) (by omega)) rfl rfl (hb hbytes d12) ?_
        exact Steps.refl _)
      have c5 : Steps p.tables e below (s₁.setTop (entryFrame m #[.ref b, .int (Int32.ofNat o), .ref d, .int (Int32.ofNat q), .int (Int32.ofNat len)] 7)) (Tl.setTop (mkF m 15 #[.val (.ref b), .val (.int (Int32.ofNat (o + i))), .val (.ref d), .val (.int (Int32.ofNat (q + i))), .val (.int (Int32.ofNat len)), .val (.int (Int32.ofNat i)), .val (.int (cv A (o + i)))] [])) := c4.trans (by
        refine XS.istoreS Xl.here hexec rfl (hb hbytes d13) rfl rfl hz ?_
        exact Steps.refl _)
      have c6 : Steps p.tables e below (s₁.setTop (entryFrame m #[.ref b, .int (Int32.ofNat o), .ref d, .int (Int32.ofNat q), .int (Int32.ofNat len)] 7)) (Tl.setTop (mkF m 31 #[.val (.ref b), .val (.int (Int32.ofNat (o + i))), .val (.ref d), .val (.int (Int32.ofNat (q + i))), .val (.int (Int32.ofNat len)), .val (.int (Int32.ofNat i)), .val (.int (cv A (o + i)))] [.int (lo8 (cv A (o + i))), .int (Int32.ofNat (q + i)), .ref d])) := c5.trans (by
        refine XS.iload Xl.here hexec rfl (hb hbytes d15) rfl ?_
        refine sipushV Xl.here hexec rfl 255 (hb hbytes d17) (by decide) ?_
        refine XS.icmpYes Xl.here hexec rfl (pc0 := 20) rfl (hb hbytes d20) rfl (ii_le_t (hp i (by omega))) (by decide) rfl ?_
        refine XS.aloadN Xl.here hexec rfl (hb hbytes d26) rfl rfl ?_
        refine XS.iloadN Xl.here hexec rfl (hb hbytes d27) rfl ?_
        refine XS.iload Xl.here hexec rfl (hb hbytes d28) rfl ?_
        refine i2b Xl.here hexec rfl (hb hbytes d30) rfl ?_
        exact Steps.refl _)
      obtain ⟨T7, X7, p7, st7⟩ := Xl.aput hexec hBk rfl hlt rfl (fits_lo8 (cv A (o + i))) (g := (mkF m 31 #[.val (.ref b), .val (.int (Int32.ofNat (o + i))), .val (.ref d), .val (.int (Int32.ofNat (q + i))), .val (.int (Int32.ofNat len)), .val (.int (Int32.ofNat i)), .val (.int (cv A (o + i)))] [.int (lo8 (cv A (o + i))), .int (Int32.ofNat (q + i)), .ref d])) rfl (rest := []) rfl (hb hbytes d31)
      have c8 : Steps p.tables e below (s₁.setTop (entryFrame m #[.ref b, .int (Int32.ofNat o), .ref d, .int (Int32.ofNat q), .int (Int32.ofNat len)] 7)) (T7.setTop (mkF m 32 #[.val (.ref b), .val (.int (Int32.ofNat (o + i))), .val (.ref d), .val (.int (Int32.ofNat (q + i))), .val (.int (Int32.ofNat len)), .val (.int (Int32.ofNat i)), .val (.int (cv A (o + i)))] [])) := c6.trans (st7 _ (Steps.refl _))
      have c9 : Steps p.tables e below (s₁.setTop (entryFrame m #[.ref b, .int (Int32.ofNat o), .ref d, .int (Int32.ofNat q), .int (Int32.ofNat len)] 7)) (T7.setTop (mkF m 3 #[.val (.ref b), .val (.int (Int32.ofNat (o + i) + 1)), .val (.ref d), .val (.int (Int32.ofNat (q + i) + 1)), .val (.int (Int32.ofNat len)), .val (.int (Int32.ofNat i + 1)), .val (.int (cv A (o + i)))] [])) := c8.trans (by
        refine iincV X7.here hexec rfl 1 (hb hbytes d32) (by decide) rfl rfl ?_
        refine iincV X7.here hexec rfl 1 (hb hbytes d35) (by decide) rfl rfl ?_
        refine iincV X7.here hexec rfl 1 (hb hbytes d38) (by decide) rfl rfl ?_
        refine XS.goto X7.here hexec rfl (pc0 := 41) rfl (hb hbytes d41) (by decide) rfl ?_
        exact Steps.refl _)
      have c10 : Steps p.tables e below (s₁.setTop (entryFrame m #[.ref b, .int (Int32.ofNat o), .ref d, .int (Int32.ofNat q), .int (Int32.ofNat len)] 7)) (T7.setTop (mkF m 3 #[.val (.ref b), .val (.int (Int32.ofNat (o + (i + 1)))), .val (.ref d), .val (.int (Int32.ofNat (q + (i + 1)))), .val (.int (Int32.ofNat len)), .val (.int (Int32.ofNat (i + 1))), .val (.int (cv A (o + i)))] [])) := by
        have := c9
        rw [succ32, succ32, succ32] at this
        exact this
      exact ih (i + 1) (by omega) _ (Or.inr ⟨_, rfl, rfl⟩) T7 _ (by rw [copyLocs_step, ← List.append_assoc]; exact X7) (pl.trans p7) (fl.step (by omega) hlt (by simp)) c10
  obtain ⟨T9, B9, z9, X9, p9, f9, g9⟩ := loop len 0 (by omega) .unset (Or.inl rfl) s₁ B (by simpa [copyLocs] using X0) ⟨hB0.1, fun _ _ => rfl, rfl⟩ (Laid.zero _ _ _) c2
  have c11 : Steps p.tables e below (s₁.setTop (entryFrame m #[.ref b, .int (Int32.ofNat o), .ref d, .int (Int32.ofNat q), .int (Int32.ofNat len)] 7)) (T9.setTop (mkF m 46 #[.val (.ref b), .val (.int (Int32.ofNat (o + len))), .val (.ref d), .val (.int (Int32.ofNat (q + len))), .val (.int (Int32.ofNat len)), .val (.int (Int32.ofNat len)), z9] [.int (Int32.ofNat len)])) := g9.trans (by
    refine XS.iload X9.here hexec rfl (hb hbytes d3) rfl ?_
    refine XS.iload X9.here hexec rfl (hb hbytes d5) rfl ?_
    refine XS.icmpYes X9.here hexec rfl (pc0 := 7) rfl (hb hbytes d7) rfl (ii_ge_t (nlt32 (by omega) (Nat.le_refl _))) (by decide) rfl ?_
    refine XS.iload X9.here hexec rfl (hb hbytes d44) rfl ?_
    exact Steps.refl _)
  exact ⟨T9, some (.int (Int32.ofNat len)), _, _, _, X9, by simp, rfl, rfl, (fun h => by cases h), ⟨rfl, B9, p9.from hh0, f9⟩, fun fs hl => c11.trans (X9.ireturnOut hexec hret rfl (Or.inl rfl) (hb hbytes d46) hl)⟩
end Cmp5
namespace Cmp3
def yN : MethodName := ⟨"java/lang/StringUTF16", "compress", "([CII)[B"⟩
abbrev yB : ByteArray := jdk_52_method_16_code
theorem d0 : decode yB 0 = .ok (.iload_n 2, 1) := by decide +kernel
theorem d1 : decode yB 1 = .ok (.newarray .byte, 2) := by decide +kernel
theorem d3 : decode yB 3 = .ok (.astore_n 3, 1) := by decide +kernel
theorem d4 : decode yB 4 = .ok (.aload_n 0, 1) := by decide +kernel
theorem d5 : decode yB 5 = .ok (.iload_n 1, 1) := by decide +kernel
theorem d6 : decode yB 6 = .ok (.aload_n 3, 1) := by decide +kernel
theorem d7 : decode yB 7 = .ok (.iconst 0, 1) := by decide +kernel
theorem d8 : decode yB 8 = .ok (.iload_n 2, 1) := by decide +kernel
theorem d9 : decode yB 9 = .ok (.invokestatic 115, 3) := by decide +kernel
theorem d12 : decode yB 12 = .ok (.istore 4, 2) := by decide +kernel
theorem d14 : decode yB 14 = .ok (.iload 4, 2) := by decide +kernel
theorem d16 : decode yB 16 = .ok (.iload_n 2, 1) := by decide +kernel
theorem d17 : decode yB 17 = .ok (.if_icmp (.eq) 40, 3) := by decide +kernel
theorem d57 : decode yB 57 = .ok (.aload_n 3, 1) := by decide +kernel
theorem d58 : decode yB 58 = .ok (.areturn, 1) := by decide +kernel
def site : List Cond := [.arrayClass .byte, Cmp5.tab] ++ staticW U16 115 Cmp5.yN
def tab : Cond := tabOf yN yB 6 (some (.array .byte)) site
def P (b : Addr) (A : Cell) (o len : Nat) (args : Array Value) (s : State) : Prop := args = #[.ref b, .int (Int32.ofNat o), .int (Int32.ofNat len)] ∧ Ch b A s ∧ o + len ≤ A.slots.size ∧ len ≤ 536870912 ∧ ∀ i, i < len → ¬ 255 < cv A (o + i)
def E (b : Addr) (A : Cell) (o len : Nat) (r : Option Value) (s u : State) : Prop := NewArr .byte "[B" len (fun j => .int (lo8 (cv A (o + j)))) r s u ∧ u.heap.size = s.heap.size + 1
/-- no char of the range above 255: a new byte[] of their low bytes -/
theorem law (l : Launch) (b : Addr) (A : Cell) (o len : Nat) : Law l yN 3 3 1 18 yB 6 (some (.array .byte)) site (P b A o len) (E b A o len) [] 1 len := by
  refine Law.of_walk (plainFor_of_name (by decide +kernel)) (by decide +kernel) (by decide +kernel) (by decide) (fun _ _ h => by rw [h.1]; rfl) (fun _ U U' hal hh h => ⟨h.1, h.2.1.mv hal hh, h.2.2⟩) (fun r U U' V V' h1 hal h2 h => ⟨NewArr.mv r U U' V V' h1 hal h2 h.1, by rw [h1, h2]; exact h.2⟩) ?_
  intro p e s m args below meth c s₁ X0 hexec hbytes hml hret hlk hnm hown hh0 W hP
  obtain ⟨rfl, hA, l1, l2, hp⟩ := hP
  have a31 := hA.1.2.2.2
  have c1 : Steps p.tables e below (s₁.setTop (entryFrame m #[.ref b, .int (Int32.ofNat o), .int (Int32.ofNat len)] 6)) (s₁.setTop (mkF m 0 #[.val (.ref b), .val (.int (Int32.ofNat o)), .val (.int (Int32.ofNat len)), .unset, .unset, .unset] [])) := entry rfl
  have c2 : Steps p.tables e below (s₁.setTop (entryFrame m #[.ref b, .int (Int32.ofNat o), .int (Int32.ofNat len)] 6)) (s₁.setTop (mkF m 1 #[.val (.ref b), .val (.int (Int32.ofNat o)), .val (.int (Int32.ofNat len)), .unset, .unset, .unset] [.int (Int32.ofNat len)])) := c1.trans (by
    refine XS.iloadN X0.here hexec rfl (hb hbytes d0) rfl ?_
    exact Steps.refl _)
  obtain ⟨T3, B3, X3, ba3, bs3, bv3, bh3, bf3, st3⟩ := X0.anew hexec (atype := .byte) (wk W (.arrayClass .byte)) rfl (by show len * 1 ≤ _; omega) (by omega) (g := (mkF m 1 #[.val (.ref b), .val (.int (Int32.ofNat o)), .val (.int (Int32.ofNat len)), .unset, .unset, .unset] [.int (Int32.ofNat len)])) rfl (hb hbytes d1) (rest := []) rfl (Nat.le_refl _) (by show 0 + len ≤ len; omega)
  rw [hh0] at ba3 st3
  have kp3 : XT.Kept s T3 := (XT.Kept.of_eq hh0).push bh3
  have hA3 := hA.keep X3.warmed.alike (kp3 _ _ hA.1.1)
  have hne : b ≠ s.heap.size := hA.1.ne
  have c4 : Steps p.tables e below (s₁.setTop (entryFrame m #[.ref b, .int (Int32.ofNat o), .int (Int32.ofNat len)] 6)) (T3.setTop (mkF m 3 #[.val (.ref b), .val (.int (Int32.ofNat o)), .val (.int (Int32.ofNat len)), .unset, .unset, .unset] [.ref s.heap.size])) := c2.trans (st3 _ (Steps.refl _))
  have c5 : Steps p.tables e below (s₁.setTop (entryFrame m #[.ref b, .int (Int32.ofNat o), .int (Int32.ofNat len)] 6)) (T3.setTop (mkF m 9 #[.val (.ref b), .val (.int (Int32.ofNat o)), .val (.int (Int32.ofNat len)), .val (.ref s.heap.size), .unset, .unset] [.int (Int32.ofNat len), .int 0, .ref s.heap.size, .int (Int32.ofNat o), .ref b])) := c4.trans (by
    refine XS.astoreN X3.here hexec rfl (hb hbytes d3) rfl rfl rfl ?_
    refine XS.aloadN X3.here hexec rfl (hb hbytes d4) rfl rfl ?_
    refine XS.iloadN X3.here hexec rfl (hb hbytes d5) rfl ?_
    refine XS.aloadN X3.here hexec rfl (hb hbytes d6) rfl rfl ?_
    refine iconstV X3.here hexec rfl 0 (hb hbytes d7) (by decide) ?_
    refine XS.iloadN X3.here hexec rfl (hb hbytes d8) rfl ?_
    exact Steps.refl _)
  obtain ⟨v6, T6, X6, E6, g6⟩ := X3.callS hexec (Cmp5.law l b A s.heap.size B3 o 0 len) hown (wks W (staticW U16 115 Cmp5.yN)) (wk W Cmp5.tab) (W := 0) (Nat.le_of_ble_eq_true rfl) (Nat.le_of_ble_eq_true rfl) (Nat.le_refl _) (by show 0 + len + 0 ≤ len; omega) (g := (mkF m 9 #[.val (.ref b), .val (.int (Int32.ofNat o)), .val (.int (Int32.ofNat len)), .val (.ref s.heap.size), .unset, .unset] [.int (Int32.ofNat len), .int (Int32.ofNat 0), .ref s.heap.size, .int (Int32.ofNat o), .ref b])) rfl (by rw [hml]; rfl) c5 (argsL := [.ref b, .int (Int32.ofNat o), .ref s.heap.size, .int (Int32.ofNat 0), .int (Int32.ofNat len)]) (rest := []) rfl rfl (by show 2 * 0 + 0 ≤ _; decide) (hb hbytes d9) (⟨rfl, hA3, ba3, hne, l1, by rw [bs3]; simp, hp⟩)
  obtain ⟨rfl, B6, p6, f6⟩ := E6
  have c7 : Steps p.tables e below (s₁.setTop (entryFrame m #[.ref b, .int (Int32.ofNat o), .int (Int32.ofNat len)] 6)) (T6.setTop (mkF m 12 #[.val (.ref b), .val (.int (Int32.ofNat o)), .val (.int (Int32.ofNat len)), .val (.ref s.heap.size), .unset, .unset] [.int (Int32.ofNat len)])) := g6
  have c8 : Steps p.tables e below (s₁.setTop (entryFrame m #[.ref b, .int (Int32.ofNat o), .int (Int32.ofNat len)] 6)) (T6.setTop (mkF m 58 #[.val (.ref b), .val (.int (Int32.ofNat o)), .val (.int (Int32.ofNat len)), .val (.ref s.heap.size), .val (.int (Int32.ofNat len)), .unset] [.ref s.heap.size])) := c7.trans (by
    refine XS.istore X6.here hexec rfl (hb hbytes d12) rfl rfl ?_
    refine XS.iload X6.here hexec rfl (hb hbytes d14) rfl ?_
    refine XS.iloadN X6.here hexec rfl (hb hbytes d16) rfl ?_
    refine XS.icmpYes X6.here hexec rfl (pc0 := 17) rfl (hb hbytes d17) rfl (ii_eq_t rfl) (by decide) rfl ?_
    refine XS.aloadN X6.here hexec rfl (hb hbytes d57) rfl rfl ?_
    exact Steps.refl _)
  have X8 := X6.wide (L' := []) (cells' := 1) (slots' := len) (fun x hx hlt => by
    simp only [List.nil_append, copyLocs, List.mem_map, List.mem_range] at hx
    obtain ⟨i, -, rfl⟩ := hx
    exact absurd hlt (Nat.lt_irrefl _)) (Nat.le_refl _) (by omega)
  exact ⟨T6, some (.ref s.heap.size), _, _, _, X8, rfl, rfl, rfl, (fun h => by cases h), ⟨⟨rfl, B6, ba3.like (X3.warmed.alike.symm.trans X6.warmed.alike) p6.1 f6.1 f6.2.1 f6.2.2.1, f6.2.1.trans bv3, by rw [X6.warmed.alike.findClass, f6.1]; exact bf3, by rw [f6.2.2.1, bs3]; simp, fun j hj => by rw [f6.2.2.2 j, if_pos (by omega)]; rfl, kp3.put p6 (Nat.le_refl _)⟩, by rw [p6.2.2, bh3, hh0]; simp⟩, fun fs hl => c8.trans (X8.areturnOut hexec rfl hret rfl (hb hbytes d58) hl)⟩
end Cmp3
namespace CodL
def yN : MethodName := ⟨"java/lang/StringUTF16", "coderFromArrayLen", "([BI)B"⟩
abbrev yB : ByteArray := jdk_52_method_15_code
theorem d0 : decode yB 0 = .ok (.iload_n 1, 1) := by decide +kernel
theorem d1 : decode yB 1 = .ok (.aload_n 0, 1) := by decide +kernel
theorem d2 : decode yB 2 = .ok (.arraylength, 1) := by decide +kernel
theorem d3 : decode yB 3 = .ok (.isub, 1) := by decide +kernel
theorem d4 : decode yB 4 = .ok (.bipush 31, 2) := by decide +kernel
theorem d6 : decode yB 6 = .ok (.iushr, 1) := by decide +kernel
theorem d7 : decode yB 7 = .ok (.i2b, 1) := by decide +kernel
theorem d8 : decode yB 8 = .ok (.ireturn, 1) := by decide +kernel
def site : List Cond := []
def tab : Cond := tabOf yN yB 2 (some .byte) site
def P (d : Addr) (B : Cell) (args : Array Value) (s : State) : Prop := args = #[.ref d, .int (Int32.ofNat B.slots.size)] ∧ Arr .byte d B s
def E (r : Option Value) (s u : State) : Prop := XT.PureE (some (.int 0)) r s u
/-- an array as long as the number of chars: LATIN1 -/
theorem law (l : Launch) (d : Addr) (B : Cell) : Law l yN 2 2 0 0 yB 2 (some .byte) site (P d B) E [] 0 0 := by
  refine Law.of_walk (plainFor_of_name (by decide +kernel)) (by decide +kernel) (by decide +kernel) (by decide) (fun _ _ h => by rw [h.1]; rfl) (fun _ U U' hal hh h => ⟨h.1, h.2.mv hal hh⟩) (fun r U U' V V' h1 hal h2 h => XT.PureE.mv r U U' V V' h1 hal h2 h) ?_
  intro p e s m args below meth c s₁ X0 hexec hbytes hml hret hlk hnm hown hh0 W hP
  obtain ⟨rfl, hB⟩ := hP
  have hB0 := hB.mv X0.warmed.alike hh0
  have c1 : Steps p.tables e below (s₁.setTop (entryFrame m #[.ref d, .int (Int32.ofNat B.slots.size)] 2)) (s₁.setTop (mkF m 0 #[.val (.ref d), .val (.int (Int32.ofNat B.slots.size))] [])) := entry rfl
  have c2 : Steps p.tables e below (s₁.setTop (entryFrame m #[.ref d, .int (Int32.ofNat B.slots.size)] 2)) (s₁.setTop (mkF m 2 #[.val (.ref d), .val (.int (Int32.ofNat B.slots.size))] [.ref d, .int (Int32.ofNat B.slots.size)])) := c1.trans (by
    refine XS.iloadN X0.here hexec rfl (hb hbytes d0) rfl ?_
    refine XS.aloadN X0.here hexec rfl (hb hbytes d1) rfl rfl ?_
    exact Steps.refl _)
  have c3 : Steps p.tables e below (s₁.setTop (entryFrame m #[.ref d, .int (Int32.ofNat B.slots.size)] 2)) (s₁.setTop (mkF m 8 #[.val (.ref d), .val (.int (Int32.ofNat B.slots.size))] [.int (lo8 (ushr (Int32.ofNat B.slots.size - Int32.ofNat B.slots.size) 31))])) := c2.trans (by
    refine X0.alen hexec hB0 rfl rfl (hb hbytes d2) ?_
    refine XS.isub X0.here hexec rfl (hb hbytes d3) rfl ?_
    refine bipushV X0.here hexec rfl 31 (hb hbytes d4) (by decide) ?_
    refine iushr X0.here hexec rfl (hb hbytes d6) rfl ?_
    refine i2b X0.here hexec rfl (hb hbytes d7) rfl ?_
    exact Steps.refl _)
  have e0 : lo8 (ushr (Int32.ofNat B.slots.size - Int32.ofNat B.slots.size) 31) = 0 := by rw [Int32.sub_self]; decide
  rw [e0] at c3
  exact ⟨s₁, some (.int 0), _, _, _, X0, rfl, rfl, rfl, (fun h => by cases h), ⟨rfl, hh0⟩, fun fs hl => c3.trans (X0.ireturnOut hexec hret rfl (Or.inr (Or.inr (Or.inl rfl))) (hb hbytes d8) hl)⟩
end CodL
/-- the String at a is Latin-1 over a new byte[] (the heap's one new cell): the low bytes of the len chars of A from o on; every cell but a is kept -/
def Got (a : Addr) (D : Cell) (fV fC : Field) (A : Cell) (o len : Nat) (r : Option Value) (s u : State) : Prop := r = none ∧ ∃ D' V : Cell, Blank "java/lang/String" a D' u ∧ Same D D' [fV.slot, fC.slot] ∧ D'.slots[fV.slot]? = some (.ref s.heap.size) ∧ D'.slots[fC.slot]? = some (.int 0) ∧ Arr .byte s.heap.size V u ∧ V.vm = .none ∧ u.vm.findClass "[B" = some V.cls ∧ V.slots.size = len ∧ (∀ j, j < len → V.slots[j]? = some (.int (lo8 (cv A (o + j))))) ∧ (∀ (y : Addr) (c : Cell), y ≠ a → s.heap[y]? = some c → u.heap[y]? = some c) ∧ u.heap.size = s.heap.size + 1
theorem Got.mv {a : Addr} {D A : Cell} {fV fC : Field} {o len : Nat} : ∀ r (U U' V V' : State), U'.heap = U.heap → V.vm.Alike V'.vm → V'.heap = V.heap → Got a D fV fC A o len r U V → Got a D fV fC A o len r U' V' :=
  fun r U U' V V' h1 hal h2 ⟨e0, D', X, a1, a2, a3, a4, a5, a6, a7, a8, a9, a10, a11⟩ => ⟨e0, D', X, a1.mv hal h2, a2, by rw [h1]; exact a3, a4, by rw [h1]; exact a5.mv hal h2, a6, by rw [hal.findClass]; exact a7, a8, a9, by rw [h1, h2]; exact a10, by rw [h1, h2]; exact a11⟩
namespace New4
def yN : MethodName := ⟨"java/lang/String", "<init>", "([CIILjava/lang/Void;)V"⟩
abbrev yB : ByteArray := jdk_42_method_149_code
theorem d0 : decode yB 0 = .ok (.aload_n 0, 1) := by decide +kernel
theorem d1 : decode yB 1 = .ok (.invokespecial 1, 3) := by decide +kernel
theorem d4 : decode yB 4 = .ok (.iload_n 3, 1) := by decide +kernel
theorem d5 : decode yB 5 = .ok (.ifCond (.ne) 22, 3) := by decide +kernel
theorem d27 : decode yB 27 = .ok (.getstatic 38, 3) := by decide +kernel
theorem d30 : decode yB 30 = .ok (.ifCond (.eq) 28, 3) := by decide +kernel
theorem d33 : decode yB 33 = .ok (.aload_n 1, 1) := by decide +kernel
theorem d34 : decode yB 34 = .ok (.iload_n 2, 1) := by decide +kernel
theorem d35 : decode yB 35 = .ok (.iload_n 3, 1) := by decide +kernel
theorem d36 : decode yB 36 = .ok (.invokestatic 177, 3) := by decide +kernel
theorem d39 : decode yB 39 = .ok (.astore 5, 2) := by decide +kernel
theorem d41 : decode yB 41 = .ok (.aload_n 0, 1) := by decide +kernel
theorem d42 : decode yB 42 = .ok (.aload 5, 2) := by decide +kernel
theorem d44 : decode yB 44 = .ok (.iload_n 3, 1) := by decide +kernel
theorem d45 : decode yB 45 = .ok (.invokestatic 47, 3) := by decide +kernel
theorem d48 : decode yB 48 = .ok (.putfield 15, 3) := by decide +kernel
theorem d51 : decode yB 51 = .ok (.aload_n 0, 1) := by decide +kernel
theorem d52 : decode yB 52 = .ok (.aload 5, 2) := by decide +kernel
theorem d54 : decode yB 54 = .ok (.putfield 9, 3) := by decide +kernel
theorem d57 : decode yB 57 = .ok (.return_, 1) := by decide +kernel
def site : List Cond := [.fieldLink "java/lang/String" 38 "java/lang/String" "COMPACT_STRINGS" "Z", Cmp3.tab, CodL.tab, .laysFinal "java/lang/String" "java/lang/String" "value" "[B", .fieldLink "java/lang/String" 9 "java/lang/String" "value" "[B", .laysFinal "java/lang/String" "java/lang/String" "coder" "B", .fieldLink "java/lang/String" 15 "java/lang/String" "coder" "B"] ++ objW "java/lang/String" 1 ++ staticW "java/lang/String" 177 Cmp3.yN ++ staticW "java/lang/String" 47 CodL.yN
def tab : Cond := tabOf yN yB 6 none site
def P (a : Addr) (D : Cell) (fV fC : Field) (b : Addr) (A : Cell) (z : Int32) (o len : Nat) (args : Array Value) (s : State) : Prop := args = #[.ref a, .ref b, .int (Int32.ofNat o), .int (Int32.ofNat len), .null] ∧ Blank "java/lang/String" a D s ∧ Found "java/lang/String" "value" "[B" fV s ∧ Found "java/lang/String" "coder" "B" fC s ∧ Ch b A s ∧ StaticIs s "java/lang/String" "COMPACT_STRINGS" "Z" (.int z) ∧ ¬ z = 0 ∧ 0 < len ∧ o + len ≤ A.slots.size ∧ len ≤ 536870912 ∧ ∀ i, i < len → ¬ 255 < cv A (o + i)
def E (a : Addr) (D : Cell) (fV fC : Field) (A : Cell) (o len : Nat) (r : Option Value) (s u : State) : Prop := Got a D fV fC A o len r s u
/-- len > 0, no char of the range above 255: a Latin-1 String of their low bytes -/
theorem law (l : Launch) (a : Addr) (D : Cell) (fV fC : Field) (b : Addr) (A : Cell) (z : Int32) (o len : Nat) : Law l yN 5 4 2 35 yB 6 none site (P a D fV fC b A z o len) (E a D fV fC A o len) [⟨a, fC.slot⟩, ⟨a, fV.slot⟩] 1 len := by
  refine Law.of_walk (plainFor_of_name (by decide +kernel)) (by decide +kernel) (by decide +kernel) (by decide) (fun _ _ h => by rw [h.1]; rfl) (fun _ U U' hal hh h => ⟨h.1, h.2.1.mv hal hh, h.2.2.1.al hal, h.2.2.2.1.al hal, h.2.2.2.2.1.mv hal hh, h.2.2.2.2.2.1.there hal hh, h.2.2.2.2.2.2⟩) (fun r U U' V V' h1 hal h2 h => Got.mv r U U' V V' h1 hal h2 h) ?_
  intro p e s m args below meth c s₁ X0 hexec hbytes hml hret hlk hnm hown hh0 W hP
  obtain ⟨rfl, hB, f1, f2, hA, s1, hz, l0, l1, l2, hp⟩ := hP
  have a31 := hA.1.2.2.2
  have c1 : Steps p.tables e below (s₁.setTop (entryFrame m #[.ref a, .ref b, .int (Int32.ofNat o), .int (Int32.ofNat len), .null] 6)) (s₁.setTop (mkF m 0 #[.val (.ref a), .val (.ref b), .val (.int (Int32.ofNat o)), .val (.int (Int32.ofNat len)), .val .null, .unset] [])) := entry rfl
  have c2 : Steps p.tables e below (s₁.setTop (entryFrame m #[.ref a, .ref b, .int (Int32.ofNat o), .int (Int32.ofNat len), .null] 6)) (s₁.setTop (mkF m 1 #[.val (.ref a), .val (.ref b), .val (.int (Int32.ofNat o)), .val (.int (Int32.ofNat len)), .val .null, .unset] [.ref a])) := c1.trans (by
    refine XS.aloadN X0.here hexec rfl (hb hbytes d0) rfl rfl ?_
    exact Steps.refl _)
  obtain ⟨T3, X3, q3, st3⟩ := X0.oinit hexec hown (wks W (objW "java/lang/String" 1)) (g := (mkF m 1 #[.val (.ref a), .val (.ref b), .val (.int (Int32.ofNat o)), .val (.int (Int32.ofNat len)), .val .null, .unset] [.ref a])) rfl (by rw [hml]; rfl) (rest := []) rfl (hb hbytes d1) (W := 0) (by show 2 * 0 + 0 ≤ _; decide) (Nat.le_of_ble_eq_true rfl) (Nat.le_of_ble_eq_true rfl)
  have hh3 := q3.trans hh0
  have c4 : Steps p.tables e below (s₁.setTop (entryFrame m #[.ref a, .ref b, .int (Int32.ofNat o), .int (Int32.ofNat len), .null] 6)) (T3.setTop (mkF m 27 #[.val (.ref a), .val (.ref b), .val (.int (Int32.ofNat o)), .val (.int (Int32.ofNat len)), .val .null, .unset] [])) := (c2.trans (st3 _ (Steps.refl _))).trans (by
    refine XS.iloadN X3.here hexec rfl (hb hbytes d4) rfl ?_
    refine XS.ifYes X3.here hexec rfl (pc0 := 5) rfl (hb hbytes d5) rfl (i0_ne_t (nz32 (by omega) l0)) (by decide) rfl ?_
    exact Steps.refl _)
  obtain ⟨T5, X5, q5, st5⟩ := X3.sget hexec hown (wk W (.fieldLink "java/lang/String" 38 "java/lang/String" "COMPACT_STRINGS" "Z")) s1 (fun _ _ h => by rw [hh3]; exact h) (g := (mkF m 27 #[.val (.ref a), .val (.ref b), .val (.int (Int32.ofNat o)), .val (.int (Int32.ofNat len)), .val .null, .unset] [])) rfl (hb hbytes d27)
  have hh5 := q5.trans hh3
  have c6 : Steps p.tables e below (s₁.setTop (entryFrame m #[.ref a, .ref b, .int (Int32.ofNat o), .int (Int32.ofNat len), .null] 6)) (T5.setTop (mkF m 30 #[.val (.ref a), .val (.ref b), .val (.int (Int32.ofNat o)), .val (.int (Int32.ofNat len)), .val .null, .unset] [.int z])) := c4.trans (st5 _ (Steps.refl _))
  have c7 : Steps p.tables e below (s₁.setTop (entryFrame m #[.ref a, .ref b, .int (Int32.ofNat o), .int (Int32.ofNat len), .null] 6)) (T5.setTop (mkF m 36 #[.val (.ref a), .val (.ref b), .val (.int (Int32.ofNat o)), .val (.int (Int32.ofNat len)), .val .null, .unset] [.int (Int32.ofNat len), .int (Int32.ofNat o), .ref b])) := c6.trans (by
    refine XS.ifNo X5.here hexec rfl (hb hbytes d30) rfl (i0_eq_f hz) ?_
    refine XS.aloadN X5.here hexec rfl (hb hbytes d33) rfl rfl ?_
    refine XS.iloadN X5.here hexec rfl (hb hbytes d34) rfl ?_
    refine XS.iloadN X5.here hexec rfl (hb hbytes d35) rfl ?_
    exact Steps.refl _)
  obtain ⟨v8, T8, X8, E8, g8⟩ := X5.callS hexec (Cmp3.law l b A o len) hown (wks W (staticW "java/lang/String" 177 Cmp3.yN)) (wk W Cmp3.tab) (W := 0) (Nat.le_of_ble_eq_true rfl) (Nat.le_of_ble_eq_true rfl) (Nat.le_refl _) (by show 0 + len ≤ len; omega) (g := (mkF m 36 #[.val (.ref a), .val (.ref b), .val (.int (Int32.ofNat o)), .val (.int (Int32.ofNat len)), .val .null, .unset] [.int (Int32.ofNat len), .int (Int32.ofNat o), .ref b])) rfl (by rw [hml]; rfl) c7 (argsL := [.ref b, .int (Int32.ofNat o), .int (Int32.ofNat len)]) (rest := []) rfl rfl (by show 2 * 0 + 0 ≤ _; decide) (hb hbytes d36) (⟨rfl, hA.mv X5.warmed.alike hh5, l1, l2, hp⟩)
  obtain ⟨e8, z8⟩ := E8
  obtain ⟨rfl, N, n1, n2, n3, n4, n5, n6⟩ := NewArr.mv _ T5 s _ _ hh5.symm (Vm.Alike.refl _) rfl e8
  rw [hh5] at z8
  have hB1 := hB.keep X8.warmed.alike (n6 _ _ hB.1)
  have hne : s.heap.size ≠ a := (Nat.ne_of_lt (Array.getElem?_eq_some_iff.mp hB.1).1).symm
  have c9 : Steps p.tables e below (s₁.setTop (entryFrame m #[.ref a, .ref b, .int (Int32.ofNat o), .int (Int32.ofNat len), .null] 6)) (T8.setTop (mkF m 39 #[.val (.ref a), .val (.ref b), .val (.int (Int32.ofNat o)), .val (.int (Int32.ofNat len)), .val .null, .unset] [.ref s.heap.size])) := g8
  have c10 : Steps p.tables e below (s₁.setTop (entryFrame m #[.ref a, .ref b, .int (Int32.ofNat o), .int (Int32.ofNat len), .null] 6)) (T8.setTop (mkF m 45 #[.val (.ref a), .val (.ref b), .val (.int (Int32.ofNat o)), .val (.int (Int32.ofNat len)), .val .null, .val (.ref s.heap.size)] [.int (Int32.ofNat N.slots.size), .ref s.heap.size, .ref a])) := by
    have hc : Steps p.tables e below (s₁.setTop (entryFrame m #[.ref a, .ref b, .int (Int32.ofNat o), .int (Int32.ofNat len), .null] 6)) (T8.setTop (mkF m 45 #[.val (.ref a), .val (.ref b), .val (.int (Int32.ofNat o)), .val (.int (Int32.ofNat len)), .val .null, .val (.ref s.heap.size)] [.int (Int32.ofNat len), .ref s.heap.size, .ref a])) := c9.trans (by
      refine XS.astore X8.here hexec rfl (hb hbytes d39) rfl rfl rfl ?_
      refine XS.aloadN X8.here hexec rfl (hb hbytes d41) rfl rfl ?_
      refine XS.aload X8.here hexec rfl (hb hbytes d42) rfl rfl ?_
      refine XS.iloadN X8.here hexec rfl (hb hbytes d44) rfl ?_
      exact Steps.refl _)
    rw [n4]; exact hc
  obtain ⟨v11, T11, X11, E11, g11⟩ := X8.callS hexec (CodL.law l s.heap.size N) hown (wks W (staticW "java/lang/String" 47 CodL.yN)) (wk W CodL.tab) (W := 1) (Nat.le_of_ble_eq_true rfl) (Nat.le_of_ble_eq_true rfl) (Nat.le_refl _) (by show 0 + len + 0 ≤ len; omega) (g := (mkF m 45 #[.val (.ref a), .val (.ref b), .val (.int (Int32.ofNat o)), .val (.int (Int32.ofNat len)), .val .null, .val (.ref s.heap.size)] [.int (Int32.ofNat N.slots.size), .ref s.heap.size, .ref a])) rfl (by rw [hml]; rfl) c10 (argsL := [.ref s.heap.size, .int (Int32.ofNat N.slots.size)]) (rest := [.ref a]) rfl rfl (by show 2 * 0 + (1 + 0) ≤ _; decide) (hb hbytes d45) (⟨rfl, n1⟩)
  obtain ⟨rfl, q11⟩ := E11
  have hB11 := hB1.mv (X8.warmed.alike.symm.trans X11.warmed.alike) q11
  have c12 : Steps p.tables e below (s₁.setTop (entryFrame m #[.ref a, .ref b, .int (Int32.ofNat o), .int (Int32.ofNat len), .null] 6)) (T11.setTop (mkF m 48 #[.val (.ref a), .val (.ref b), .val (.int (Int32.ofNat o)), .val (.int (Int32.ofNat len)), .val .null, .val (.ref s.heap.size)] [.int 0, .ref a])) := g11
  obtain ⟨T13, X13, p13, bl13, sl13, st13⟩ := X11.finit hexec hown (wk W (.fieldLink "java/lang/String" 15 "java/lang/String" "coder" "B")) (Or.inr ⟨_, (wk W (.laysFinal "java/lang/String" "java/lang/String" "coder" "B"))⟩) (Or.inl ⟨rfl, hnm⟩) f2 (Or.inl rfl) hB11 (t := .byte) (by decide +kernel) rfl (g := (mkF m 48 #[.val (.ref a), .val (.ref b), .val (.int (Int32.ofNat o)), .val (.int (Int32.ofNat len)), .val .null, .val (.ref s.heap.size)] [.int 0, .ref a])) rfl (rest := []) rfl (hb hbytes d48)
  have c14 : Steps p.tables e below (s₁.setTop (entryFrame m #[.ref a, .ref b, .int (Int32.ofNat o), .int (Int32.ofNat len), .null] 6)) (T13.setTop (mkF m 54 #[.val (.ref a), .val (.ref b), .val (.int (Int32.ofNat o)), .val (.int (Int32.ofNat len)), .val .null, .val (.ref s.heap.size)] [.ref s.heap.size, .ref a])) := (c12.trans (st13 _ (Steps.refl _))).trans (by
    refine XS.aloadN X13.here hexec rfl (hb hbytes d51) rfl rfl ?_
    refine XS.aload X13.here hexec rfl (hb hbytes d52) rfl rfl ?_
    exact Steps.refl _)
  obtain ⟨T15, X15, p15, bl15, sl15, st15⟩ := X13.finit hexec hown (wk W (.fieldLink "java/lang/String" 9 "java/lang/String" "value" "[B")) (Or.inr ⟨_, (wk W (.laysFinal "java/lang/String" "java/lang/String" "value" "[B"))⟩) (Or.inl ⟨rfl, hnm⟩) f1 (Or.inl rfl) bl13 (t := (.array .byte)) (by decide +kernel) rfl (g := (mkF m 54 #[.val (.ref a), .val (.ref b), .val (.int (Int32.ofNat o)), .val (.int (Int32.ofNat len)), .val .null, .val (.ref s.heap.size)] [.ref s.heap.size, .ref a])) rfl (rest := []) rfl (hb hbytes d54)
  have c16 : Steps p.tables e below (s₁.setTop (entryFrame m #[.ref a, .ref b, .int (Int32.ofNat o), .int (Int32.ofNat len), .null] 6)) (T15.setTop (mkF m 57 #[.val (.ref a), .val (.ref b), .val (.int (Int32.ofNat o)), .val (.int (Int32.ofNat len)), .val .null, .val (.ref s.heap.size)] [])) := c14.trans (st15 _ (Steps.refl _))
  have ap := apart (Or.inr ⟨_, (wk W (.laysFinal "java/lang/String" "java/lang/String" "value" "[B"))⟩) (Or.inr ⟨_, (wk W (.laysFinal "java/lang/String" "java/lang/String" "coder" "B"))⟩) f1 f2 (t₁ := .array .byte) (t₂ := .byte) (by decide +kernel) (by decide +kernel) (by decide)
  have al := X8.warmed.alike.symm.trans X15.warmed.alike
  have n7 : T11.heap[s.heap.size]? = some N := by rw [q11]; exact n1.1
  exact ⟨T15, none, _, _, _, X15, by simp, rfl, by omega, (fun _ => rfl), ⟨rfl, _, N, bl15, ((Same.refl D _).set _ (by simp)).set _ (by simp), sl15, (Cell.slots_setSlot_ne _ ap).trans sl13, n1.keep al (p15.other hne (p13.other hne n7)), n2, by rw [al.findClass]; exact n3, n4, n5, fun y c h1 h2 => p15.other h1 (p13.other h1 (by rw [q11]; exact n6 y c h2)), by rw [p15.2.2, p13.2.2, q11]; exact z8⟩, fun fs hl => c16.trans (X15.returnOut hexec hret (hb hbytes d57) hl)⟩
end New4
namespace New1
def yN : MethodName := ⟨"java/lang/String", "<init>", "([C)V"⟩
abbrev yB : ByteArray := jdk_42_method_3_code
theorem d0 : decode yB 0 = .ok (.aload_n 0, 1) := by decide +kernel
theorem d1 : decode yB 1 = .ok (.aload_n 1, 1) := by decide +kernel
theorem d2 : decode yB 2 = .ok (.iconst 0, 1) := by decide +kernel
theorem d3 : decode yB 3 = .ok (.aload_n 1, 1) := by decide +kernel
theorem d4 : decode yB 4 = .ok (.arraylength, 1) := by decide +kernel
theorem d5 : decode yB 5 = .ok (.aconst_null, 1) := by decide +kernel
theorem d6 : decode yB 6 = .ok (.invokespecial 27, 3) := by decide +kernel
theorem d9 : decode yB 9 = .ok (.return_, 1) := by decide +kernel
def site : List Cond := [New4.tab] ++ initW "java/lang/String" 27 New4.yN
def tab : Cond := tabOf yN yB 2 none site
def P (a : Addr) (D : Cell) (fV fC : Field) (b : Addr) (A : Cell) (z : Int32) (args : Array Value) (s : State) : Prop := args = #[.ref a, .ref b] ∧ Blank "java/lang/String" a D s ∧ Found "java/lang/String" "value" "[B" fV s ∧ Found "java/lang/String" "coder" "B" fC s ∧ Ch b A s ∧ StaticIs s "java/lang/String" "COMPACT_STRINGS" "Z" (.int z) ∧ ¬ z = 0 ∧ 0 < A.slots.size ∧ A.slots.size ≤ 536870912 ∧ ∀ i, i < A.slots.size → ¬ 255 < cv A i
def E (a : Addr) (D : Cell) (fV fC : Field) (A : Cell) (r : Option Value) (s u : State) : Prop := Got a D fV fC A 0 A.slots.size r s u
/-- new String(chars), not empty, no char above 255: a Latin-1 String of their low bytes -/
theorem law (l : Launch) (a : Addr) (D : Cell) (fV fC : Field) (b : Addr) (A : Cell) (z : Int32) : Law l yN 2 1 3 52 yB 2 none site (P a D fV fC b A z) (E a D fV fC A) [⟨a, fC.slot⟩, ⟨a, fV.slot⟩] 1 A.slots.size := by
  refine Law.of_walk (plainFor_of_name (by decide +kernel)) (by decide +kernel) (by decide +kernel) (by decide) (fun _ _ h => by rw [h.1]; rfl) (fun _ U U' hal hh h => ⟨h.1, h.2.1.mv hal hh, h.2.2.1.al hal, h.2.2.2.1.al hal, h.2.2.2.2.1.mv hal hh, h.2.2.2.2.2.1.there hal hh, h.2.2.2.2.2.2⟩) (fun r U U' V V' h1 hal h2 h => Got.mv r U U' V V' h1 hal h2 h) ?_
  intro p e s m args below meth c s₁ X0 hexec hbytes hml hret hlk hnm hown hh0 W hP
  obtain ⟨rfl, hB, f1, f2, hA, s1, hz, l0, l2, hp⟩ := hP
  have c1 : Steps p.tables e below (s₁.setTop (entryFrame m #[.ref a, .ref b] 2)) (s₁.setTop (mkF m 0 #[.val (.ref a), .val (.ref b)] [])) := entry rfl
  have c2 : Steps p.tables e below (s₁.setTop (entryFrame m #[.ref a, .ref b] 2)) (s₁.setTop (mkF m 6 #[.val (.ref a), .val (.ref b)] [.null, .int (Int32.ofNat A.slots.size), .int 0, .ref b, .ref a])) := c1.trans (by
    refine XS.aloadN X0.here hexec rfl (hb hbytes d0) rfl rfl ?_
    refine XS.aloadN X0.here hexec rfl (hb hbytes d1) rfl rfl ?_
    refine iconstV X0.here hexec rfl 0 (hb hbytes d2) (by decide) ?_
    refine XS.aloadN X0.here hexec rfl (hb hbytes d3) rfl rfl ?_
    refine X0.alen hexec (hA.1.mv X0.warmed.alike hh0) rfl rfl (hb hbytes d4) ?_
    refine XS.aconstNull X0.here hexec rfl (hb hbytes d5) ?_
    exact Steps.refl _)
  obtain ⟨v3, T3, X3, E3, g3⟩ := X0.callN hexec (New4.law l a D fV fC b A z 0 A.slots.size) rfl hown (wks W (initW "java/lang/String" 27 New4.yN)) (W New4.tab (by simp only [site, List.mem_cons, List.mem_append, true_or, or_true])) (W := 0) (Nat.le_of_ble_eq_true rfl) (Nat.le_of_ble_eq_true rfl) (Nat.le_refl _) (by show 0 + A.slots.size ≤ A.slots.size; omega) (g := (mkF m 6 #[.val (.ref a), .val (.ref b)] [.null, .int (Int32.ofNat A.slots.size), .int (Int32.ofNat 0), .ref b, .ref a])) rfl (by rw [hml]; rfl) c2 (argsL := [.ref b, .int (Int32.ofNat 0), .int (Int32.ofNat A.slots.size), .null]) (rest := []) rfl rfl (by show 2 * 0 + 0 ≤ _; decide) (hb hbytes d6) (⟨rfl, hB.mv X0.warmed.alike hh0, f1.al X0.warmed.alike, f2.al X0.warmed.alike, hA.mv X0.warmed.alike hh0, s1.there X0.warmed.alike hh0, hz, l0, by omega, l2, fun i hi => by rw [Nat.zero_add]; exact hp i hi⟩)
  have e0 := Got.mv _ s₁ s _ _ hh0.symm (Vm.Alike.refl _) rfl E3
  obtain rfl := e0.1
  have c4 : Steps p.tables e below (s₁.setTop (entryFrame m #[.ref a, .ref b] 2)) (T3.setTop (mkF m 9 #[.val (.ref a), .val (.ref b)] [])) := g3
  exact ⟨T3, none, _, _, _, X3, by simp, rfl, by omega, (fun _ => rfl), e0, fun fs hl => c4.trans (X3.returnOut hexec hret (hb hbytes d9) hl)⟩
theorem pays {l : Launch} {R : Room} {p : Program} {e : Env} {below : List Frame} {s : State} {sargs : Array Value} {len W : Nat} (a : Addr) (D : Cell) (fV fC : Field) (b : Addr) (A : Cell) (z : Int32) (htab : tab.before sargs s = true) (hfr : 4 ≤ R.frames) (hlo : W + 65 ≤ R.locals) :
    Back l R p e below s sargs yN len W (fun A₁ a₁ => A₁.cells + 1 ≤ R.cells ∧ A₁.slots + A.slots.size ≤ R.slots ∧ P a D fV fC b A z a₁ A₁.U) (fun A₁ _ v₁ B₁ => E a D fV fC A v₁ A₁.U B₁.U ∧ B₁.locs = A₁.locs ++ [⟨a, fC.slot⟩, ⟨a, fV.slot⟩] ∧ B₁.cells = A₁.cells + 1 ∧ B₁.slots = A₁.slots + A.slots.size) :=
  (law l a D fV fC b A z).pays htab hfr (by omega)
end New1
/-- the byte, read back as charAt reads it, is the char -/
theorem lo8_mask {x : Int32} (h0 : ¬ x < 0) (h1 : ¬ 255 < x) : lo8 x &&& 255 = x := by
  have t : ∀ k : Fin 256, lo8 (Int32.ofNat k.val) &&& 255 = Int32.ofNat k.val := by decide +kernel
  rw [Int32.lt_iff_toInt_lt] at h0 h1
  have e0 : (0 : Int32).toInt = 0 := rfl
  have e1 : (255 : Int32).toInt = 255 := rfl
  obtain ⟨k, hk⟩ : ∃ k : Nat, x.toInt = k := ⟨x.toInt.toNat, by omega⟩
  have hx : x = Int32.ofNat k := Int32.toInt_inj.mp (by rw [hk, Int32.toInt_ofNat_small (by omega)])
  rw [hx]
  exact t ⟨k, by omega⟩
end StrChars
namespace StrChars.Road
open Jvm Sem ClassFile Op Lib Jvm.Stand Jvm.Free Jvm.Free.XT
open Jvm.Lib.Cold (StaticIs)
abbrev ST : String := "java/lang/String"
/-- every table word that New1's law asks, flat -/
abbrev words : List Jvm.Cond := [.code New1.yN New1.yB 2 none, .initialized ST, .methodLink ST 27 New4.yN, .instanceMethod New4.yN,
  .code New4.yN New4.yB 6 none, .fieldLink ST 38 ST "COMPACT_STRINGS" "Z", .laysFinal ST ST "value" "[B", .fieldLink ST 9 ST "value" "[B", .laysFinal ST ST "coder" "B", .fieldLink ST 15 ST "coder" "B",
  .methodLink ST 1 Lib.objectInit, .instanceMethod Lib.objectInit, .code Lib.objectInit ⟨#[0xb1]⟩ 1 none, .methodLink ST 177 Cmp3.yN, .static Cmp3.yN, .methodLink ST 47 CodL.yN, .static CodL.yN,
  .code Cmp3.yN Cmp3.yB 6 (some (.array .byte)), .initialized U16, .arrayClass .byte, .methodLink U16 115 Cmp5.yN, .static Cmp5.yN, .code Cmp5.yN Cmp5.yB 7 (some .int), .code CodL.yN CodL.yB 2 (some .byte)]
theorem tab_of {a : Array Value} {s : State} (h : ∀ w ∈ words, w.before a s = true) : New1.tab.before a s = true := by
  have h5 : Cmp5.tab.before a s = true := unparts (wk h (.code Cmp5.yN Cmp5.yB 7 (some .int))) (wks h (.initialized Cmp5.yN.cls :: Cmp5.site))
  have hc : CodL.tab.before a s = true := unparts (wk h (.code CodL.yN CodL.yB 2 (some .byte))) (wks h (.initialized CodL.yN.cls :: CodL.site))
  have q5 : ∀ w ∈ Cmp5.tab :: words, w.before a s = true := fun w hw => (List.mem_cons.mp hw).elim (fun e => e ▸ h5) (h w)
  have h3 : Cmp3.tab.before a s = true := unparts (wk q5 (.code Cmp3.yN Cmp3.yB 6 (some (.array .byte)))) (wks q5 (.initialized Cmp3.yN.cls :: Cmp3.site))
  have q3 : ∀ w ∈ Cmp3.tab :: CodL.tab :: words, w.before a s = true := fun w hw => (List.mem_cons.mp hw).elim (fun e => e ▸ h3) fun hw => (List.mem_cons.mp hw).elim (fun e => e ▸ hc) (h w)
  have h4 : New4.tab.before a s = true := unparts (wk q3 (.code New4.yN New4.yB 6 none)) (wks q3 (.initialized New4.yN.cls :: New4.site))
  have q4 : ∀ w ∈ New4.tab :: words, w.before a s = true := fun w hw => (List.mem_cons.mp hw).elim (fun e => e ▸ h4) (h w)
  exact unparts (wk q4 (.code New1.yN New1.yB 2 none)) (wks q4 (.initialized New1.yN.cls :: New1.site))
/-- the words ride from the start Z to the walk's own state -/
theorem moved {Z s : State} {a0 args : Array Value} (hZ : Z.Warmed39 s.vm) (hw : ∀ d ∈ words, d.before a0 Z = true) : ∀ d ∈ words, d.before args s = true := fun d hd => by
  have q := hw d hd
  have t : ∀ d ∈ words, d = .arrayClass .byte ∨ (d.onTables && d.keepsFace) = true := by decide +kernel
  rcases t d hd with rfl | t
  · exact RoadKit.mvA hZ q
  · exact RoadKit.mv hZ q t
/-- WHAT COMES BACK, over the tables of the start Z: h the heap at the call, h' behind it -/
def Q (Z : State) (x : Addr) (A : Cell) (h : Heap) (v : Option Value) (h' : Heap) (L : List Loc) : Prop := v = none ∧ (∀ y ∈ L, y.base = x) ∧ RoadKit.Keep h h' [x] ∧ h'.size = h.size + 1 ∧ RoadKit.Exa Z h' x ST ∧ RoadKit.Fld Z h' x ST "value" "[B" (.ref h.size) ∧ RoadKit.Fld Z h' x ST "coder" "B" (.int 0) ∧
  (∃ V : Cell, RoadKit.Arr Z h' h.size V .byte ∧ V.vm = .none ∧ Z.vm.findClass "[B" = some V.cls ∧ V.slots.size = A.slots.size ∧ ∀ j, j < A.slots.size → V.slots[j]? = some (.int (lo8 (cv A j)))) ∧
  ∀ (O n d : String) (w : Value), RoadKit.Fld Z h x O n d w → RoadKit.slotOf Z O n d ≠ RoadKit.slotOf Z ST "value" "[B" → RoadKit.slotOf Z O n d ≠ RoadKit.slotOf Z ST "coder" "B" → RoadKit.Fld Z h' x O n d w
/-- **new String(chars) AT A CALL, IN THE ROAD'S FORM**: for specialBack behind newO: x the fresh String, b the char[] with the cell A -/
theorem back {p : Program} {l : Launch} {e : Env} {R : Room} {s : State} {args : Array Value} {below : List Frame} {len W : Nat} {Z : State} {a0 : Array Value} {h : Heap} (hZ : Z.Warmed39 s.vm) (hw : ∀ d ∈ words, d.before a0 Z = true) {kI : Nat} (wi : (Jvm.Cond.instantiable ST kI).before a0 Z = true)
    {x b : Addr} {A : Cell} {z : Int32} {v0 c0 : Value} (E : RoadKit.Exa Z h x ST) (V : RoadKit.Fld Z h x ST "value" "[B" v0) (C : RoadKit.Fld Z h x ST "coder" "B" c0) (K : RoadKit.Arr Z h b A .char) (hty : Typed .char A) (S : RoadKit.Sta Z h ST "COMPACT_STRINGS" "Z" (.int z)) (hz : ¬ z = 0)
    (l0 : 0 < A.slots.size) (l2 : A.slots.size ≤ 536870912) (hp : ∀ i, i < A.slots.size → ¬ 255 < cv A i) (hfr : 4 ≤ R.frames) (hlo : W + 65 ≤ R.locals) :
    Back l R p e below s args New1.yN len W (fun P a => a = #[.ref x, .ref b] ∧ P.U.heap = h ∧ P.cells + 1 ≤ R.cells ∧ P.slots + A.slots.size ≤ R.slots)
      (fun P _ v B => ∃ L, Q Z x A h v B.U.heap L ∧ B.locs = P.locs ++ L ∧ B.cells = P.cells + 1 ∧ B.slots = P.slots + A.slots.size) := by
  intro m meth c P g ig mk a X hg hsize hdg hW hn hp'
  obtain ⟨rfl, rfl, r1, r2⟩ := hp'
  have al : Z.vm.Alike P.U.vm := hZ.alike.trans X.warmed.alike
  obtain ⟨D, cfV, kV, iV, fV, hD, gV, stV, knV, obV, asV, slV⟩ := id V
  obtain ⟨D', cfC, kC, iC, fC, hD', gC, stC, -, -, asC, slC⟩ := id C
  cases hD.symm.trans hD'
  obtain ⟨D2, kD, e1, e2, e3, e4, e5⟩ := id E
  cases hD.symm.trans e1
  obtain ⟨c2, k2, i1, i2, i3, -⟩ := Cond.instantiable_spec wi
  cases e2.symm.trans i1
  cases e3.symm.trans i2
  obtain ⟨kU, u1, u2⟩ := al.2.2 _ _ e3
  have hB : Blank ST x D P.U := ⟨hD, ⟨knV, fun q hq => by rw [hq] at obV; cases obV⟩, by rw [al.findClass]; exact e2, kU, u1, by rw [u2]; exact i3, by rw [u2]; exact e5 i3⟩
  have F1 : Found ST "value" "[B" fV P.U := ⟨SBG.found_only al ⟨cfV, kV, iV, gV⟩, stV⟩
  have F2 : Found ST "coder" "B" fC P.U := ⟨SBG.found_only al ⟨cfC, kC, iC, gC⟩, stC⟩
  have hA : Ch b A P.U := ⟨⟨K.1, State.isArrayOf_alike al K.2.1, K.2.2, by omega⟩, hty⟩
  have hS : StaticIs P.U ST "COMPACT_STRINGS" "Z" (.int z) := by
    obtain ⟨cfS, iS, kS, fS, st, cS, t1, t2, t3, t4, t5, t6, t7⟩ := S
    exact StaticIs.there (s := { Z with heap := P.U.heap }) ⟨cfS, iS, kS, fS, st, cS, t1, t2, t3, t4, t5, (fun q => by rw [q] at t6; cases t6), t7⟩ al rfl
  obtain ⟨v, B, X', ⟨⟨hv, E', V', q1, q2, q3, q4, q5, q6, q7, q8, q9, q10, q11⟩, hl, hc, hs⟩, st⟩ := New1.pays x D fV fC b A z (tab_of (moved hZ hw)) hfr hlo m meth c P g ig mk _ X hg hsize hdg hW hn ⟨r1, r2, rfl, hB, F1, F2, hA, hS, hz, l0, l2, hp⟩
  have al' : Z.vm.Alike B.U.vm := hZ.alike.trans X'.warmed.alike
  have hsz : E'.slots.size = D.slots.size := by
    obtain ⟨-, -, -, kB, w1, w2, w3⟩ := q1
    obtain ⟨kB', y1, y2⟩ := al'.2.2 _ _ e3
    rw [q2.2.1] at w1
    cases w1.symm.trans y1
    rw [w3, e5 i3, y2]
  refine ⟨v, B, X', ⟨_, ⟨hv, ?_, ⟨by omega, fun y cy hy hn' => q10 y cy (by simpa using hn') hy, fun y cy hy => ?_⟩, q11, ⟨E', _, q1.1, by rw [q2.2.1]; exact e2, by rw [q2.2.1]; exact e3, by rw [q2.1]; exact obV, fun _ => by rw [hsz]; exact e5 i3⟩,
    ⟨E', cfV, kV, iV, fV, q1.1, gV, stV, by rw [q2.1]; exact knV, by rw [q2.1]; exact obV, by rw [q2.2.1]; exact asV, q3⟩, ⟨E', cfC, kC, iC, fC, q1.1, gC, stC, by rw [q2.1]; exact knV, by rw [q2.1]; exact obV, by rw [q2.2.1]; exact asC, q4⟩,
    ⟨V', ⟨q5.1, State.isArrayOf_alike al'.symm q5.2.1, q5.2.2.1⟩, q6, by rw [← al'.findClass]; exact q7, q8, fun j hj => by have := q9 j hj; rwa [Nat.zero_add] at this⟩, fun O n d w F n1 n2 => ?_⟩, hl, hc, hs⟩, st⟩
  · intro y hy
    simp only [List.mem_cons, List.not_mem_nil, or_false] at hy
    rcases hy with rfl | rfl <;> rfl
  · by_cases q : y = x
    · subst q
      cases hD.symm.trans hy
      exact ⟨E', q1.1, q2.2.1, q2.1, hsz⟩
    · exact ⟨cy, q10 y cy q hy, rfl, rfl, rfl⟩
  · obtain ⟨D3, cf, k, i, f, g1, g2, g3, g4, g5, g6, g7⟩ := F
    cases hD.symm.trans g1
    simp only [RoadKit.slotOf, g2, gV, gC, Option.map_some, Option.getD_some] at n1 n2
    exact ⟨E', cf, k, i, f, q1.1, g2, g3, by rw [q2.1]; exact g4, by rw [q2.1]; exact g5, by rw [q2.2.1]; exact g6, by rw [q2.2.2 f.slot (by simp [n1, n2])]; exact g7⟩
end StrChars.Road
namespace StrChars.Road
open Jvm Sem ClassFile Op Lib Jvm.Stand Jvm.Free Jvm.Free.XT
/-- WHAT COMES BACK, the byte[] as a list of values -/
def QA (Z : State) (x : Addr) (zn : Int32) (cs : List Int32) (h : Heap) (v : Option Value) (h' : Heap) (L : List Loc) : Prop := v = none ∧ (∀ y ∈ L, y.base = x) ∧ RoadKit.Keep h h' [x] ∧ h'.size = h.size + 1 ∧ RoadKit.Exa Z h' x ST ∧ RoadKit.Fld Z h' x ST "value" "[B" (.ref h.size) ∧ RoadKit.Fld Z h' x ST "coder" "B" (.int 0) ∧
  (∃ kb, Z.vm.findClass "[B" = some kb ∧ RoadKit.Arv Z h' h.size kb .byte zn (cs.map fun c => .int (lo8 c)) (.int 0)) ∧
  ∀ (O n d : String) (w : Value), RoadKit.Fld Z h x O n d w → RoadKit.slotOf Z O n d ≠ RoadKit.slotOf Z ST "value" "[B" → RoadKit.slotOf Z O n d ≠ RoadKit.slotOf Z ST "coder" "B" → RoadKit.Fld Z h' x O n d w
/-- **new String(chars) AT A CALL, THE ARRAYS AS LISTS**: the char[] at b holds cs, not empty, no char above 255 -/
theorem backArv {p : Program} {l : Launch} {e : Env} {R : Room} {s : State} {args : Array Value} {below : List Frame} {len W : Nat} {Z : State} {a0 : Array Value} {h : Heap} (hZ : Z.Warmed39 s.vm) (hw : ∀ d ∈ words, d.before a0 Z = true) {kI : Nat} (wi : (Jvm.Cond.instantiable ST kI).before a0 Z = true)
    {x b : Addr} {k : ClassId} {zn z : Int32} {cs : List Int32} {dv v0 c0 : Value} (E : RoadKit.Exa Z h x ST) (V : RoadKit.Fld Z h x ST "value" "[B" v0) (C : RoadKit.Fld Z h x ST "coder" "B" c0) (K : RoadKit.Arv Z h b k .char zn (cs.map Value.int) dv) (S : RoadKit.Sta Z h ST "COMPACT_STRINGS" "Z" (.int z)) (hz : ¬ z = 0)
    (hlen : zn.toNatClampNeg = cs.length) (h0 : 0 < cs.length) (hbig : cs.length ≤ 536870912) (hall : ∀ c ∈ cs, ¬ 255 < c) (hfr : 4 ≤ R.frames) (hlo : W + 65 ≤ R.locals) :
    Back l R p e below s args New1.yN len W (fun P a => a = #[.ref x, .ref b] ∧ P.U.heap = h ∧ P.cells + 1 ≤ R.cells ∧ P.slots + cs.length ≤ R.slots)
      (fun P _ v B => ∃ L, QA Z x zn cs h v B.U.heap L ∧ B.locs = P.locs ++ L ∧ B.cells = P.cells + 1 ∧ B.slots = P.slots + cs.length) := by
  obtain ⟨A, K1, K2, K3, K4, K5, K6⟩ := K
  have e : A.slots.size = cs.length := K3.trans hlen
  have hat : ∀ (i : Nat) (hi : i < cs.length), A.slots[i]? = some (.int cs[i]) := fun i hi => by rw [K5 i (by omega)]; simp [List.getD_eq_getElem?_getD, hi]
  have hcv : ∀ (i : Nat) (hi : i < cs.length), cv A i = cs[i] := fun i hi => by unfold cv; rw [hat i hi]
  have hty : Typed .char A := fun i v hv => by
    have hi : i < A.slots.size := (Array.getElem?_eq_some_iff.mp hv).1
    have q := K5 i hi
    rw [hv] at q
    rw [Option.some.inj q]
    exact K6 i hi
  refine Back.mono (back hZ hw wi E V C K1 hty S hz (by omega) (by omega) (fun i hi => by rw [hcv i (by omega)]; exact hall _ (List.getElem_mem _)) hfr hlo) (fun P a hp => ⟨hp.1, hp.2.1, hp.2.2.1, by rw [e]; exact hp.2.2.2⟩) (fun P a v B hp hq => ?_)
  obtain ⟨L, ⟨q1, q2, q3, q4, q5, q6, q7, ⟨V', v1, v2, v3, v4, v5⟩, q9⟩, hl, hc, hs⟩ := hq
  refine ⟨L, ⟨q1, q2, q3, q4, q5, q6, q7, ⟨V'.cls, v3, V', v1, rfl, by rw [v4, e, hlen], K4, fun i hi => ?_, fun i hi => ?_⟩, q9⟩, hl, hc, by rw [hs, e]⟩
  · have hi' : i < cs.length := by omega
    rw [v5 i (by omega), hcv i hi']; simp [List.getD_eq_getElem?_getD, hi']
  · have hi' : i < cs.length := by omega
    simp only [List.getD_eq_getElem?_getD, List.getElem?_map, List.getElem?_eq_getElem hi', Option.map_some, Option.getD_some]
    exact fits_lo8 _
end StrChars.Road
namespace StrChars.Road
open Jvm Sem ClassFile Op Lib Jvm.Stand Jvm.Free Jvm.Free.XT
/-- WHAT COMES BACK, in the writer's own shape -/
def QV (Z : State) (x : Addr) (N : Int32) (bs : List Int32) (h : Heap) (n0 : Nat) (v : Option Value) (h' : Heap) (L : List Loc) : Prop := v = none ∧ RoadKit.Fr n0 L ∧ RoadKit.Keep h h' [x] ∧ RoadKit.Exa Z h' x ST ∧ RoadKit.Fld Z h' x ST "coder" "B" (.int 0) ∧
  ∃ (t : Addr) (kb : ClassId), n0 ≤ t ∧ h.size ≤ t ∧ ¬ t = x ∧ RoadKit.Fld Z h' x ST "value" "[B" (.ref t) ∧ RoadKit.Arv Z h' t kb .byte N (bs.map Value.int) (.int 0)
/-- **new String(chars) AT A CALL, FOR THE WRITER**: a char[] of n known ints, each 0 to 255 -/
theorem backV {p : Program} {l : Launch} {e : Env} {R : Room} {s : State} {args : Array Value} {below : List Frame} {len W : Nat} {Z : State} {a0 : Array Value} {h : Heap} (hZ : Z.Warmed39 s.vm) (hw : ∀ d ∈ words, d.before a0 Z = true) {kI : Nat} (wi : (Jvm.Cond.instantiable ST kI).before a0 Z = true)
    {x b : Addr} {kC : ClassId} {cs bs : List Int32} {d v0 c0 : Value} {z N : Int32} {n n0 : Nat} (hx0 : n0 ≤ x) (hh0 : n0 ≤ h.size) (E : RoadKit.Exa Z h x ST) (V : RoadKit.Fld Z h x ST "value" "[B" v0) (C : RoadKit.Fld Z h x ST "coder" "B" c0) (K : RoadKit.Arv Z h b kC .char N (cs.map Value.int) d) (S : RoadKit.Sta Z h ST "COMPACT_STRINGS" "Z" (.int z)) (hz : ¬ z = 0)
    (hn : cs.length = n) (hN : N = Int32.ofNat n) (l0 : 0 < n) (l2 : n ≤ 4000) (hp : ∀ c ∈ cs, ¬ c < 0 ∧ ¬ (255 : Int32) < c) (hb : bs = cs.map (fun c => c.toInt8.toInt32)) (hfr : 4 ≤ R.frames) (hlo : W + 65 ≤ R.locals) :
    Back l R p e below s args (⟨"java/lang/String", "<init>", "([C)V"⟩ : MethodName) len W (fun P a => a = #[.ref x, .ref b] ∧ P.U.heap = h ∧ P.cells + 1 ≤ R.cells ∧ P.slots + n ≤ R.slots)
      (fun P _ v B => ∃ L, QV Z x N bs h n0 v B.U.heap L ∧ B.locs = P.locs ++ L ∧ B.cells = P.cells + 1 ∧ B.slots = P.slots + n) := by
  subst hn hN hb
  refine Back.mono (backArv hZ hw wi E V C K S hz (n32 (by omega)) l0 (by omega) (fun c hc => (hp c hc).2) hfr hlo) (fun P a hp => hp) (fun P a v B hp hq => ?_)
  obtain ⟨L, ⟨q1, q2, q3, q4, q5, q6, q7, ⟨kb, v1, v2⟩, q9⟩, hl, hc, hs⟩ := hq
  exact ⟨L, ⟨q1, fun y hy => by rw [q2 y hy]; exact hx0, q3, q5, q7, h.size, kb, hh0, Nat.le_refl _, Nat.ne_of_gt E.lt, q6, by rw [List.map_map]; exact v2⟩, hl, hc, hs⟩
end StrChars.Road
namespace StrChars
open Jvm Sem ClassFile Op Lib Jvm.Stand Jvm.Free.XT Jvm.Free.ALB Jvm.Free.JM Jvm.Free
open Jvm.Lib.Cold (StaticIs)
def hi8 (x : Int32) : Int32 := lo8 (x >>> ((8 : Int32) &&& 31))
/-- what StringUTF16.getChar makes of two bytes -/
def pairCh (u v : Int32) : Int32 := (((u &&& 255) <<< ((0 : Int32) &&& 31)) ||| ((v &&& 255) <<< ((8 : Int32) &&& 31))).toUInt32.toUInt16.toUInt32.toInt32
theorem lo8_and (x : Int32) : (lo8 x &&& 255).toBitVec.toNat = x.toBitVec.toNat % 256 := by
  have h : (lo8 x).toBitVec = (x.toBitVec.signExtend 8).signExtend 32 := by rw [lo8, Int8.toBitVec_toInt32, Int32.toBitVec_toInt8]
  rw [Int32.toBitVec_and, BitVec.toNat_and, h]
  have e : ((x.toBitVec.signExtend 8).signExtend 32).toNat % 256 = x.toBitVec.toNat % 256 := by
    rw [BitVec.toNat_signExtend]
    have hlt := x.toBitVec.isLt
    simp only [BitVec.toNat_setWidth, BitVec.toNat_signExtend]
    split <;> split <;> omega
  rw [← e]
  exact Nat.and_two_pow_sub_one_eq_mod _ 8
theorem pair_says {c : Int32} (h0 : ¬ c < 0) (h1 : ¬ 65535 < c) : pairCh (lo8 c) (hi8 c) = c := by
  rw [Int32.lt_iff_toInt_lt] at h0 h1
  have e0 : (0 : Int32).toInt = 0 := rfl
  have e1 : (65535 : Int32).toInt = 65535 := rfl
  have hc : c.toInt = c.toBitVec.toNat := by
    have := c.toBitVec.isLt
    have e : c.toInt = c.toBitVec.toInt := rfl
    rw [e] at h0 h1
    rw [e]
    rw [BitVec.toInt_eq_toNat_cond] at h0 h1 ⊢
    split at h0 <;> split <;> omega
  have hn : c.toBitVec.toNat < 65536 := by omega
  have a1 := lo8_and c
  have a2 : (hi8 c &&& 255).toBitVec.toNat = c.toBitVec.toNat / 256 := by
    rw [hi8, lo8_and]
    have e : ((8 : Int32) &&& 31) = 8 := by decide
    rw [e, Int32.toBitVec_shiftRight]
    have e2 : ((8 : Int32).toBitVec.smod 32) = 8#32 := by decide
    rw [e2, BitVec.sshiftRight_eq', BitVec.toNat_sshiftRight_of_msb_false (by rw [BitVec.msb_eq_false_iff_two_mul_lt]; omega)]
    show c.toBitVec.toNat >>> 8 % 256 = _
    rw [Nat.shiftRight_eq_div_pow]
    omega
  unfold pairCh
  apply Int32.toBitVec_inj.mp
  apply BitVec.eq_of_toNat_eq
  have f0 : ((0 : Int32) &&& 31) = 0 := by decide
  have f8 : ((8 : Int32) &&& 31) = 8 := by decide
  rw [f0, f8]
  have g : (((lo8 c &&& 255) <<< (0 : Int32)) ||| ((hi8 c &&& 255) <<< (8 : Int32))).toBitVec.toNat = c.toBitVec.toNat := by
    rw [Int32.toBitVec_or, Int32.toBitVec_shiftLeft, Int32.toBitVec_shiftLeft]
    have s0 : ((0 : Int32).toBitVec.smod 32) = 0#32 := by decide
    have s8 : ((8 : Int32).toBitVec.smod 32) = 8#32 := by decide
    rw [s0, s8, BitVec.toNat_or]
    simp only [BitVec.shiftLeft_eq', BitVec.toNat_shiftLeft, a1, a2]
    show (c.toBitVec.toNat % 256) <<< 0 % 2 ^ 32 ||| (c.toBitVec.toNat / 256) <<< 8 % 2 ^ 32 = _
    rw [Nat.shiftLeft_zero, Nat.mod_eq_of_lt (show c.toBitVec.toNat % 256 < 2 ^ 32 by omega), Nat.mod_eq_of_lt (show (c.toBitVec.toNat / 256) <<< 8 < 2 ^ 32 by rw [Nat.shiftLeft_eq]; omega), Nat.or_comm, ← Nat.shiftLeft_add_eq_or_of_lt (by omega), Nat.shiftLeft_eq]
    omega
  show BitVec.toNat (((((lo8 c &&& 255) <<< (0 : Int32)) ||| ((hi8 c &&& 255) <<< (8 : Int32))).toBitVec.setWidth 16).setWidth 32) = _
  rw [BitVec.toNat_setWidth, BitVec.toNat_setWidth, g]
  omega
end StrChars
namespace StrChars
open Jvm Sem ClassFile Op Lib Jvm.Stand Jvm.Free.XT Jvm.Free.ALB Jvm.Free.JM Jvm.Free
open Jvm.Lib.Cold (StaticIs)
/-- the array's cell V codes the n chars f 0 .. f (n - 1) by the coder cd, as the JDK does: coder 1 just where some char is above 255 -/
def Cod (cd : Int32) (n : Nat) (f : Nat → Int32) (V : Cell) : Prop := (cd = 0 ∧ V.slots.size = n ∧ ∀ j, j < n → V.slots[j]? = some (.int (lo8 (f j))) ∧ ¬ 255 < f j) ∨ (cd = 1 ∧ V.slots.size = 2 * n ∧ (∀ j, j < n → V.slots[2 * j]? = some (.int (lo8 (f j))) ∧ V.slots[2 * j + 1]? = some (.int (hi8 (f j)))) ∧ ∃ j, j < n ∧ 255 < f j)
/-- **x is a String of the n chars f 0 .. f (n - 1)**, Latin-1 or UTF-16; its array at t has the cell V -/
def Txt (x t : Addr) (V : Cell) (cd : Int32) (n : Nat) (f : Nat → Int32) (U : State) : Prop := Exact "java/lang/String" x U ∧ Has x "java/lang/String" "value" "[B" (.ref t) U ∧ Has x "java/lang/String" "coder" "B" (.int cd) U ∧ XT.Arr .byte t V U ∧ Cod cd n f V ∧ ∀ j, j < n → ¬ f j < 0 ∧ ¬ 65535 < f j
theorem Txt.mv {x t : Addr} {V : Cell} {cd : Int32} {n : Nat} {f : Nat → Int32} {U U' : State} (h : Txt x t V cd n f U) (hal : U.vm.Alike U'.vm) (hh : U'.heap = U.heap) : Txt x t V cd n f U' := ⟨h.1.mv hal hh, h.2.1.mv hal hh, h.2.2.1.mv hal hh, h.2.2.2.1.mv hal hh, h.2.2.2.2⟩
end StrChars
namespace StrChars.Road
open Jvm Sem ClassFile Op Lib Jvm.Stand Jvm.Free Jvm.Free.XT
open Jvm.Lib.Cold (StaticIs)
theorem consq {a : Array Value} {s : State} {c : Jvm.Cond} {L : List Jvm.Cond} (h0 : c.before a s = true) (h : ∀ w ∈ L, w.before a s = true) : ∀ w ∈ c :: L, w.before a s = true := fun w hw => (List.mem_cons.mp hw).elim (fun e => e ▸ h0) (h w)
/-- the bytes of the chars cs, low before high -/
def wideBytes : List Int32 → List Value
  | [] => []
  | c :: cs => .int (lo8 c) :: .int (hi8 c) :: wideBytes cs
theorem wide_lo (d : Value) : ∀ (cs : List Int32) (j : Nat), j < cs.length → (wideBytes cs).getD (2 * j) d = .int (lo8 (cs.getD j 0))
  | [], j, h => absurd h (Nat.not_lt_zero j)
  | c :: cs, 0, _ => rfl
  | c :: cs, j + 1, h => by
    have q := wide_lo d cs j (by simpa using h)
    rw [show 2 * (j + 1) = 2 * j + 1 + 1 from by omega]
    simpa [wideBytes] using q
theorem wide_hi (d : Value) : ∀ (cs : List Int32) (j : Nat), j < cs.length → (wideBytes cs).getD (2 * j + 1) d = .int (hi8 (cs.getD j 0))
  | [], j, h => absurd h (Nat.not_lt_zero j)
  | c :: cs, 0, _ => rfl
  | c :: cs, j + 1, h => by
    have q := wide_hi d cs j (by simpa using h)
    rw [show 2 * (j + 1) + 1 = 2 * j + 1 + 1 + 1 from by omega]
    simpa [wideBytes] using q
theorem low_at (d : Value) (cs : List Int32) (j : Nat) (h : j < cs.length) : (cs.map fun c => Value.int (lo8 c)).getD j d = .int (lo8 (cs.getD j 0)) := by
  simp [List.getD_eq_getElem?_getD, h]
/-- an array of N2 bytes vs codes the chars cs by the coder cd -/
def CodA (cs : List Int32) (cd N2 : Int32) (vs : List Value) : Prop := (cd = 0 ∧ N2 = Int32.ofNat cs.length ∧ vs = (cs.map fun c => Value.int (lo8 c)) ∧ ∀ c ∈ cs, ¬ 255 < c) ∨ (cd = 1 ∧ N2 = Int32.ofNat (2 * cs.length) ∧ vs = wideBytes cs ∧ ∃ c ∈ cs, 255 < c)
theorem CodA.cod {cs : List Int32} {cd N2 : Int32} {vs : List Value} {V : Cell} (h : CodA cs cd N2 vs) (hn : 2 * cs.length < 2 ^ 31) (hs : V.slots.size = N2.toNatClampNeg) (hv : RoadKit.Has V vs (.int 0)) : Cod cd cs.length (fun j => cs.getD j 0) V := by
  rcases h with ⟨rfl, rfl, rfl, h⟩ | ⟨rfl, rfl, rfl, c, hc, hw⟩
  · rw [n32 (by omega)] at hs
    exact Or.inl ⟨rfl, hs, fun j hj => ⟨by rw [hv j (by omega), low_at _ _ _ hj], by
      have e : cs.getD j 0 = cs[j] := by simp [List.getD_eq_getElem?_getD, hj]
      show ¬ 255 < cs.getD j 0
      rw [e]; exact h _ (List.getElem_mem _)⟩⟩
  · rw [n32 (by omega)] at hs
    obtain ⟨j, hj, rfl⟩ := List.getElem_of_mem hc
    exact Or.inr ⟨rfl, hs, fun j hj => ⟨by rw [hv _ (by omega), wide_lo _ _ _ hj], by rw [hv _ (by omega), wide_hi _ _ _ hj]⟩, j, hj, by
      have e : cs.getD j 0 = cs[j] := by simp [List.getD_eq_getElem?_getD, hj]
      show 255 < cs.getD j 0
      rw [e]; exact hw⟩
/-- an object of exactly java/lang/String, its two fields found: as the laws ask it -/
theorem strObj {Z U : State} {a0 : Array Value} {kI : Nat} (wi : (Jvm.Cond.instantiable ST kI).before a0 Z = true) (al : Z.vm.Alike U.vm) {x : Addr} {v0 c0 : Value} (E : RoadKit.Exa Z U.heap x ST) (V : RoadKit.Fld Z U.heap x ST "value" "[B" v0) (C : RoadKit.Fld Z U.heap x ST "coder" "B" c0) :
    ∃ (D : Cell) (fV fC : Field), Blank ST x D U ∧ Found ST "value" "[B" fV U ∧ Found ST "coder" "B" fC U ∧ D.slots[fV.slot]? = some v0 ∧ D.slots[fC.slot]? = some c0 ∧ RoadKit.slotOf Z ST "value" "[B" = fV.slot ∧ RoadKit.slotOf Z ST "coder" "B" = fC.slot := by
  obtain ⟨D, cfV, kV, iV, fV, hD, gV, stV, knV, obV, asV, slV⟩ := V
  obtain ⟨D', cfC, kC, iC, fC, hD', gC, stC, -, -, asC, slC⟩ := C
  cases hD.symm.trans hD'
  obtain ⟨D2, kD, e1, e2, e3, e4, e5⟩ := E
  cases hD.symm.trans e1
  obtain ⟨c2, k2, i1, i2, i3, -⟩ := Cond.instantiable_spec wi
  cases e2.symm.trans i1
  cases e3.symm.trans i2
  obtain ⟨kU, u1, u2⟩ := al.2.2 _ _ e3
  exact ⟨D, fV, fC, ⟨hD, ⟨knV, fun q hq => by rw [hq] at obV; cases obV⟩, by rw [al.findClass]; exact e2, kU, u1, by rw [u2]; exact i3, by rw [u2]; exact e5 i3⟩, ⟨SBG.found_only al ⟨cfV, kV, iV, gV⟩, stV⟩, ⟨SBG.found_only al ⟨cfC, kC, iC, gC⟩, stC⟩, slV, slC, by simp [RoadKit.slotOf, gV], by simp [RoadKit.slotOf, gC]⟩
theorem sta_is {Z U : State} (al : Z.vm.Alike U.vm) {C n d : String} {v : Value} (S : RoadKit.Sta Z U.heap C n d v) : StaticIs U C n d v := by
  obtain ⟨cfS, iS, kS, fS, st, cS, t1, t2, t3, t4, t5, t6, t7⟩ := S
  exact StaticIs.there (s := { Z with heap := U.heap }) ⟨cfS, iS, kS, fS, st, cS, t1, t2, t3, t4, t5, (fun q => by rw [q] at t6; cases t6), t7⟩ al rfl
end StrChars.Road
namespace StrChars
open Jvm Sem ClassFile Op Lib Jvm.Stand Jvm.Free.XT Jvm.Free.ALB Jvm.Free.JM Jvm.Free
open Jvm.Lib.Cold (StaticIs)
/-- what place i of a byte[]'s cell holds -/
def yv (A : Cell) (i : Nat) : Int32 := match A.slots[i]? with | some (.int x) => x | _ => 0
theorem yv_get {a : Addr} {A : Cell} {U : State} (h : XT.Arr .byte a A U) (ht : Typed .byte A) {i : Nat} (hi : i < A.slots.size) : A.slots[i]? = some (.int (yv A i)) := by
  have e := Array.getElem?_eq_getElem hi
  have f := ht i _ e
  unfold yv; rw [e]
  generalize A.slots[i] = v at f
  cases v <;> simp [fits] at f ⊢
/-- the two arrays are equal, place for place -/
def EqC (A B : Cell) : Prop := A.slots.size = B.slots.size ∧ ∀ i, i < A.slots.size → yv A i = yv B i
/-- a boolean that says whether p -/
def Says01 (q : Prop) (r : Option Value) (s u : State) : Prop := ∃ v : Int32, r = some (.int v) ∧ u.heap = s.heap ∧ ((v = 1 ∧ q) ∨ (v = 0 ∧ ¬ q))
theorem Says01.mv {q : Prop} : ∀ r (U U' V V' : State), U'.heap = U.heap → V.vm.Alike V'.vm → V'.heap = V.heap → Says01 q r U V → Says01 q r U' V' :=
  fun r U U' V V' h1 _ h2 ⟨v, a, b, c⟩ => ⟨v, a, by rw [h1, h2]; exact b, c⟩
namespace LEq
def yN : MethodName := ⟨"java/lang/StringLatin1", "equals", "([B[B)Z"⟩
abbrev yB : ByteArray := jdk_43_method_13_code
theorem d0 : decode yB 0 = .ok (.aload_n 0, 1) := by decide +kernel
theorem d1 : decode yB 1 = .ok (.arraylength, 1) := by decide +kernel
theorem d2 : decode yB 2 = .ok (.aload_n 1, 1) := by decide +kernel
theorem d3 : decode yB 3 = .ok (.arraylength, 1) := by decide +kernel
theorem d4 : decode yB 4 = .ok (.if_icmp (.ne) 30, 3) := by decide +kernel
theorem d7 : decode yB 7 = .ok (.iconst 0, 1) := by decide +kernel
theorem d8 : decode yB 8 = .ok (.istore_n 2, 1) := by decide +kernel
theorem d9 : decode yB 9 = .ok (.iload_n 2, 1) := by decide +kernel
theorem d10 : decode yB 10 = .ok (.aload_n 0, 1) := by decide +kernel
theorem d11 : decode yB 11 = .ok (.arraylength, 1) := by decide +kernel
theorem d12 : decode yB 12 = .ok (.if_icmp (.ge) 20, 3) := by decide +kernel
theorem d15 : decode yB 15 = .ok (.aload_n 0, 1) := by decide +kernel
theorem d16 : decode yB 16 = .ok (.iload_n 2, 1) := by decide +kernel
theorem d17 : decode yB 17 = .ok (.baload, 1) := by decide +kernel
theorem d18 : decode yB 18 = .ok (.aload_n 1, 1) := by decide +kernel
theorem d19 : decode yB 19 = .ok (.iload_n 2, 1) := by decide +kernel
theorem d20 : decode yB 20 = .ok (.baload, 1) := by decide +kernel
theorem d21 : decode yB 21 = .ok (.if_icmp (.eq) 5, 3) := by decide +kernel
theorem d24 : decode yB 24 = .ok (.iconst 0, 1) := by decide +kernel
theorem d25 : decode yB 25 = .ok (.ireturn, 1) := by decide +kernel
theorem d26 : decode yB 26 = .ok (.iinc 2 1, 3) := by decide +kernel
theorem d29 : decode yB 29 = .ok (.goto (-20), 3) := by decide +kernel
theorem d32 : decode yB 32 = .ok (.iconst 1, 1) := by decide +kernel
theorem d33 : decode yB 33 = .ok (.ireturn, 1) := by decide +kernel
theorem d34 : decode yB 34 = .ok (.iconst 0, 1) := by decide +kernel
theorem d35 : decode yB 35 = .ok (.ireturn, 1) := by decide +kernel
def site : List Cond := []
def tab : Cond := tabOf yN yB 3 (some .boolean) site
def P (a : Addr) (A : Cell) (b : Addr) (B : Cell) (args : Array Value) (s : State) : Prop := args = #[.ref a, .ref b] ∧ XT.Arr .byte a A s ∧ Typed .byte A ∧ XT.Arr .byte b B s ∧ Typed .byte B
/-- whether two byte[] are equal, place for place -/
theorem law (l : Launch) (a : Addr) (A : Cell) (b : Addr) (B : Cell) : Law l yN 2 2 0 0 yB 3 (some .boolean) site (P a A b B) (Says01 (EqC A B)) [] 0 0 := by
  refine Law.of_walk (plainFor_of_name (by decide +kernel)) (by decide +kernel) (by decide +kernel) (by decide) (fun _ _ h => by rw [h.1]; rfl) (fun _ U U' hal hh h => ⟨h.1, h.2.1.mv hal hh, h.2.2.1, h.2.2.2.1.mv hal hh, h.2.2.2.2⟩) (fun r U U' V V' h1 hal h2 h => Says01.mv r U U' V V' h1 hal h2 h) ?_
  intro p e s m args below meth c s₁ X0 hexec hbytes hml hret hlk hnm hown hh0 W hP
  obtain ⟨rfl, hA, tA, hB, tB⟩ := hP
  have a31 := hA.2.2.2
  have b31 := hB.2.2.2
  have hA0 := hA.mv X0.warmed.alike hh0
  have hB0 := hB.mv X0.warmed.alike hh0
  have c1 : Steps p.tables e below (s₁.setTop (entryFrame m #[.ref a, .ref b] 3)) (s₁.setTop (mkF m 0 #[.val (.ref a), .val (.ref b), .unset] [])) := entry rfl
  have c2 : Steps p.tables e below (s₁.setTop (entryFrame m #[.ref a, .ref b] 3)) (s₁.setTop (mkF m 4 #[.val (.ref a), .val (.ref b), .unset] [.int (Int32.ofNat B.slots.size), .int (Int32.ofNat A.slots.size)])) := c1.trans (by
    refine XS.aloadN X0.here hexec rfl (hb hbytes d0) rfl rfl ?_
    refine X0.alen hexec hA0 rfl rfl (hb hbytes d1) ?_
    refine XS.aloadN X0.here hexec rfl (hb hbytes d2) rfl rfl ?_
    refine X0.alen hexec hB0 rfl rfl (hb hbytes d3) ?_
    exact Steps.refl _)
  by_cases hs : A.slots.size = B.slots.size
  · have c3 : Steps p.tables e below (s₁.setTop (entryFrame m #[.ref a, .ref b] 3)) (s₁.setTop (mkF m 9 #[.val (.ref a), .val (.ref b), .val (.int 0)] [])) := c2.trans (by
      refine XS.icmpNo X0.here hexec rfl (hb hbytes d4) rfl (ii_ne_f (by rw [hs])) ?_
      refine iconstV X0.here hexec rfl 0 (hb hbytes d7) (by decide) ?_
      refine XS.istoreN X0.here hexec rfl (hb hbytes d8) rfl rfl ?_
      exact Steps.refl _)
    have loop : ∀ (r i : Nat), i + r = A.slots.size → (∀ j, j < i → yv A j = yv B j) → Steps p.tables e below (s₁.setTop (entryFrame m #[.ref a, .ref b] 3)) (s₁.setTop (mkF m 9 #[.val (.ref a), .val (.ref b), .val (.int (Int32.ofNat i))] [])) → ∃ (pc : Nat) (Ls : Array Slot) (v : Int32), (pc = 25 ∨ pc = 33) ∧ ((v = 1 ∧ EqC A B) ∨ (v = 0 ∧ ¬ EqC A B)) ∧ Steps p.tables e below (s₁.setTop (entryFrame m #[.ref a, .ref b] 3)) (s₁.setTop (mkF m pc Ls [.int v])) := by
      intro r
      induction r with
      | zero =>
        intro i hi he cl
        exact ⟨33, _, 1, Or.inr rfl, Or.inl ⟨rfl, hs, fun j hj => he j (by omega)⟩, cl.trans (by
          refine XS.iloadN X0.here hexec rfl (hb hbytes d9) rfl ?_
          refine XS.aloadN X0.here hexec rfl (hb hbytes d10) rfl rfl ?_
          refine X0.alen hexec hA0 rfl rfl (hb hbytes d11) ?_
          refine XS.icmpYes X0.here hexec rfl (pc0 := 12) rfl (hb hbytes d12) rfl (ii_ge_t (nlt32 (by omega) (by omega))) (by decide) rfl ?_
          refine iconstV X0.here hexec rfl 1 (hb hbytes d32) (by decide) ?_
          exact Steps.refl _)⟩
      | succ r ih =>
        intro i hi he cl
        have c4 : Steps p.tables e below (s₁.setTop (entryFrame m #[.ref a, .ref b] 3)) (s₁.setTop (mkF m 21 #[.val (.ref a), .val (.ref b), .val (.int (Int32.ofNat i))] [.int (yv B i), .int (yv A i)])) := cl.trans (by
          refine XS.iloadN X0.here hexec rfl (hb hbytes d9) rfl ?_
          refine XS.aloadN X0.here hexec rfl (hb hbytes d10) rfl rfl ?_
          refine X0.alen hexec hA0 rfl rfl (hb hbytes d11) ?_
          refine XS.icmpNo X0.here hexec rfl (hb hbytes d12) rfl (ii_ge_f (lt32 (by omega) (by omega))) ?_
          refine XS.aloadN X0.here hexec rfl (hb hbytes d15) rfl rfl ?_
          refine XS.iloadN X0.here hexec rfl (hb hbytes d16) rfl ?_
          refine X0.aget hexec hA0 rfl (yv_get hA tA (i := i) (by omega)) rfl rfl (hb hbytes d17) ?_
          refine XS.aloadN X0.here hexec rfl (hb hbytes d18) rfl rfl ?_
          refine XS.iloadN X0.here hexec rfl (hb hbytes d19) rfl ?_
          refine X0.aget hexec hB0 rfl (yv_get hB tB (i := i) (by omega)) rfl rfl (hb hbytes d20) ?_
          exact Steps.refl _)
        by_cases hv : yv A i = yv B i
        · have c5 : Steps p.tables e below (s₁.setTop (entryFrame m #[.ref a, .ref b] 3)) (s₁.setTop (mkF m 9 #[.val (.ref a), .val (.ref b), .val (.int (Int32.ofNat i + 1))] [])) := c4.trans (by
            refine XS.icmpYes X0.here hexec rfl (pc0 := 21) rfl (hb hbytes d21) rfl (ii_eq_t hv) (by decide) rfl ?_
            refine iincV X0.here hexec rfl 1 (hb hbytes d26) (by decide) rfl rfl ?_
            refine XS.goto X0.here hexec rfl (pc0 := 29) rfl (hb hbytes d29) (by decide) rfl ?_
            exact Steps.refl _)
          rw [succ32] at c5
          exact ih (i + 1) (by omega) (fun j hj => by
            by_cases e : j = i
            · rw [e]; exact hv
            · exact he j (by omega)) c5
        · exact ⟨25, _, 0, Or.inl rfl, Or.inr ⟨rfl, fun q => hv (q.2 i (by omega))⟩, c4.trans (by
            refine XS.icmpNo X0.here hexec rfl (hb hbytes d21) rfl (ii_eq_f hv) ?_
            refine iconstV X0.here hexec rfl 0 (hb hbytes d24) (by decide) ?_
            exact Steps.refl _)⟩
    obtain ⟨pc, Ls, v, hpc, hv, cz⟩ := loop A.slots.size 0 (by omega) (fun j hj => absurd hj (Nat.not_lt_zero j)) c3
    have nv : narrow .boolean (.int v) = .int v := by rcases hv with ⟨rfl, -⟩ | ⟨rfl, -⟩ <;> rfl
    rcases hpc with rfl | rfl
    · exact ⟨s₁, some (.int v), _, _, _, X0, rfl, rfl, rfl, (fun h => by cases h), ⟨v, rfl, hh0, hv⟩, fun fs hl => cz.trans (X0.ireturnOut hexec hret nv (Or.inr (Or.inl rfl)) (hb hbytes d25) hl)⟩
    · exact ⟨s₁, some (.int v), _, _, _, X0, rfl, rfl, rfl, (fun h => by cases h), ⟨v, rfl, hh0, hv⟩, fun fs hl => cz.trans (X0.ireturnOut hexec hret nv (Or.inr (Or.inl rfl)) (hb hbytes d33) hl)⟩
  · have c3 : Steps p.tables e below (s₁.setTop (entryFrame m #[.ref a, .ref b] 3)) (s₁.setTop (mkF m 35 #[.val (.ref a), .val (.ref b), .unset] [.int 0])) := c2.trans (by
      refine XS.icmpYes X0.here hexec rfl (pc0 := 4) rfl (hb hbytes d4) rfl (ii_ne_t (ne32 a31 b31 hs)) (by decide) rfl ?_
      refine iconstV X0.here hexec rfl 0 (hb hbytes d34) (by decide) ?_
      exact Steps.refl _)
    exact ⟨s₁, some (.int 0), _, _, _, X0, rfl, rfl, rfl, (fun h => by cases h), ⟨0, rfl, hh0, Or.inr ⟨rfl, fun q => hs q.1⟩⟩, fun fs hl => c3.trans (X0.ireturnOut hexec hret rfl (Or.inr (Or.inl rfl)) (hb hbytes d35) hl)⟩
end LEq
theorem Cod.ty {cd : Int32} {n : Nat} {f : Nat → Int32} {V : Cell} (h : Cod cd n f V) : Typed .byte V := fun i v hv => by
  have hi : i < V.slots.size := (Array.getElem?_eq_some_iff.mp hv).1
  rcases h with ⟨-, k1, k2⟩ | ⟨-, k1, k2, -⟩
  · rw [(k2 i (by omega)).1] at hv; cases hv; exact fits_lo8 _
  · rcases Nat.mod_two_eq_zero_or_one i with e | e
    · obtain ⟨j, rfl⟩ : ∃ j, i = 2 * j := ⟨i / 2, by omega⟩
      rw [(k2 j (by omega)).1] at hv; cases hv; exact fits_lo8 _
    · obtain ⟨j, rfl⟩ : ∃ j, i = 2 * j + 1 := ⟨i / 2, by omega⟩
      rw [(k2 j (by omega)).2] at hv; cases hv; exact fits_lo8 _
/-- the same text -/
def SameT (n : Nat) (f : Nat → Int32) (k : Nat) (g : Nat → Int32) : Prop := n = k ∧ ∀ j, j < n → f j = g j
theorem lo8_inj {x y : Int32} (h0 : ¬ x < 0) (h1 : ¬ 255 < x) (k0 : ¬ y < 0) (k1 : ¬ 255 < y) (h : lo8 x = lo8 y) : x = y := by
  rw [← lo8_mask h0 h1, ← lo8_mask k0 k1, h]
/-- arrays coded by one coder are equal just where the texts are -/
theorem Cod.eqv {cd : Int32} {n k : Nat} {f g : Nat → Int32} {V V' : Cell} (h : Cod cd n f V) (h' : Cod cd k g V') (hf : ∀ j, j < n → ¬ f j < 0 ∧ ¬ 65535 < f j) (hg : ∀ j, j < k → ¬ g j < 0 ∧ ¬ 65535 < g j) : EqC V V' ↔ SameT n f k g := by
  have yvv : ∀ {W : Cell} {i : Nat} {x : Int32}, W.slots[i]? = some (.int x) → yv W i = x := fun q => by unfold yv; rw [q]
  rcases h with ⟨rfl, k1, k2⟩ | ⟨rfl, k1, k2, -⟩
  · rcases h' with ⟨-, m1, m2⟩ | ⟨e, -⟩
    · constructor
      · rintro ⟨e1, e2⟩
        refine ⟨by omega, fun j hj => ?_⟩
        have q := e2 j (by omega)
        rw [yvv (k2 j hj).1, yvv (m2 j (by omega)).1] at q
        exact lo8_inj (hf j hj).1 (k2 j hj).2 (hg j (by omega)).1 (m2 j (by omega)).2 q
      · rintro ⟨rfl, e2⟩
        refine ⟨by omega, fun j hj => ?_⟩
        rw [yvv (k2 j (by omega)).1, yvv (m2 j (by omega)).1, e2 j (by omega)]
    · exact absurd e (by decide)
  · rcases h' with ⟨e, -⟩ | ⟨-, m1, m2, -⟩
    · exact absurd e (by decide)
    · constructor
      · rintro ⟨e1, e2⟩
        refine ⟨by omega, fun j hj => ?_⟩
        have q1 := e2 (2 * j) (by omega)
        have q2 := e2 (2 * j + 1) (by omega)
        rw [yvv (k2 j hj).1, yvv (m2 j (by omega)).1] at q1
        rw [yvv (k2 j hj).2, yvv (m2 j (by omega)).2] at q2
        rw [← pair_says (hf j hj).1 (hf j hj).2, ← pair_says (hg j (by omega)).1 (hg j (by omega)).2, q1, q2]
      · rintro ⟨rfl, e2⟩
        refine ⟨by omega, fun i hi => ?_⟩
        rcases Nat.mod_two_eq_zero_or_one i with e | e
        · obtain ⟨j, rfl⟩ : ∃ j, i = 2 * j := ⟨i / 2, by omega⟩
          rw [yvv (k2 j (by omega)).1, yvv (m2 j (by omega)).1, e2 j (by omega)]
        · obtain ⟨j, rfl⟩ : ∃ j, i = 2 * j + 1 := ⟨i / 2, by omega⟩
          rw [yvv (k2 j (by omega)).2, yvv (m2 j (by omega)).2, e2 j (by omega)]
/-- two codings differ: so do the texts -/
theorem Cod.dif {cd cd' : Int32} {n k : Nat} {f g : Nat → Int32} {V V' : Cell} (h : Cod cd n f V) (h' : Cod cd' k g V') (hne : ¬ cd = cd') : ¬ SameT n f k g := by
  rintro ⟨rfl, e⟩
  rcases h with ⟨rfl, -, k2⟩ | ⟨rfl, -, -, j, hj, hw⟩
  · rcases h' with ⟨rfl, -⟩ | ⟨-, -, -, j, hj, hw⟩
    · exact hne rfl
    · exact (k2 j hj).2 (by rw [e j hj]; exact hw)
  · rcases h' with ⟨-, -, m2⟩ | ⟨rfl, -⟩
    · exact (m2 j hj).2 (by rw [← e j hj]; exact hw)
    · exact hne rfl
/-- an object of exactly C is an instance of C -/
theorem cinst {p : Program} {l : Launch} {e : Env} {R : Room} {s : State} {m : MethodId} {args : Array Value} {below : List Frame} {meth : Method} {c : Code} {T : State} {locs : List Loc} {cells slots : Nat} (X : Stand p l e R s m args below meth c T locs cells slots) (hexec : p.tables.exec = Jvm.exec) {own C : String} {index : Nat} (hown : s.vm.findClass own = some m.cls) (hlink : (Cond.classLink own index C).before args s = true) {a : Addr} (hE : Exact C a T)
    {g : JFrame} (hg : g.method = m) {rest : List Value} (hstack : g.stack = .ref a :: rest) (hdg : decode c.code g.pc = .ok (.instanceof index, 3)) :
    ∃ T', Stand p l e R s m args below meth c T' locs cells slots ∧ T'.heap = T.heap ∧ ∀ target, Steps p.tables e below (T'.setTop { g with pc := g.pc + 3, stack := .int 1 :: rest }) target → Steps p.tables e below (T.setTop g) target := by
  obtain ⟨cB, h1, D, h2, h3, h4⟩ := hE
  have h1' : s.vm.findClass C = some cB := by rw [← X.warmed.alike.findClass]; exact h1
  obtain ⟨vm', X', st⟩ := X.instanceofYes hexec hown hlink h2 h4 h1' (by rw [h3]; exact Jvm.Free.SB.assignable_self _ _) hg hstack hdg
  exact ⟨_, X', rfl, st⟩
theorem cself {p : Program} {l : Launch} {e : Env} {R : Room} {s : State} {m : MethodId} {args : Array Value} {below : List Frame} {meth : Method} {c : Code} {T : State} {locs : List Loc} {cells slots : Nat} (X : Stand p l e R s m args below meth c T locs cells slots) (hexec : p.tables.exec = Jvm.exec) {own C : String} {index : Nat} (hown : s.vm.findClass own = some m.cls) (hlink : (Cond.classLink own index C).before args s = true) {a : Addr} (hE : Exact C a T)
    {g : JFrame} (hg : g.method = m) {rest : List Value} (hstack : g.stack = .ref a :: rest) (hdg : decode c.code g.pc = .ok (.checkcast index, 3)) :
    ∃ T', Stand p l e R s m args below meth c T' locs cells slots ∧ T'.heap = T.heap ∧ ∀ target, Steps p.tables e below (T'.setTop { g with pc := g.pc + 3, stack := .ref a :: rest }) target → Steps p.tables e below (T.setTop g) target := by
  obtain ⟨cB, h1, D, h2, h3, h4⟩ := hE
  have h1' : s.vm.findClass C = some cB := by rw [← X.warmed.alike.findClass]; exact h1
  obtain ⟨vm', X', st⟩ := X.checkcastYes hexec hown hlink h2 h4 h1' (by rw [h3]; exact Jvm.Free.SB.assignable_self _ _) hg hstack hdg
  exact ⟨_, X', rfl, fun t h => st t (by rw [← hstack] at h; exact h)⟩
namespace SEq
def yN : MethodName := ⟨"java/lang/String", "equals", "(Ljava/lang/Object;)Z"⟩
abbrev yB : ByteArray := jdk_42_method_66_code
theorem d0 : decode yB 0 = .ok (.aload_n 0, 1) := by decide +kernel
theorem d1 : decode yB 1 = .ok (.aload_n 1, 1) := by decide +kernel
theorem d2 : decode yB 2 = .ok (.if_acmp (.ne) 5, 3) := by decide +kernel
theorem d5 : decode yB 5 = .ok (.iconst 1, 1) := by decide +kernel
theorem d6 : decode yB 6 = .ok (.ireturn, 1) := by decide +kernel
theorem d7 : decode yB 7 = .ok (.aload_n 1, 1) := by decide +kernel
theorem d8 : decode yB 8 = .ok (.instanceof 10, 3) := by decide +kernel
theorem d11 : decode yB 11 = .ok (.ifCond (.eq) 43, 3) := by decide +kernel
theorem d14 : decode yB 14 = .ok (.aload_n 1, 1) := by decide +kernel
theorem d15 : decode yB 15 = .ok (.checkcast 10, 3) := by decide +kernel
theorem d18 : decode yB 18 = .ok (.astore_n 2, 1) := by decide +kernel
theorem d19 : decode yB 19 = .ok (.getstatic 38, 3) := by decide +kernel
theorem d22 : decode yB 22 = .ok (.ifCond (.eq) 14, 3) := by decide +kernel
theorem d25 : decode yB 25 = .ok (.aload_n 0, 1) := by decide +kernel
theorem d26 : decode yB 26 = .ok (.getfield 15, 3) := by decide +kernel
theorem d29 : decode yB 29 = .ok (.aload_n 2, 1) := by decide +kernel
theorem d30 : decode yB 30 = .ok (.getfield 15, 3) := by decide +kernel
theorem d33 : decode yB 33 = .ok (.if_icmp (.ne) 21, 3) := by decide +kernel
theorem d36 : decode yB 36 = .ok (.aload_n 0, 1) := by decide +kernel
theorem d37 : decode yB 37 = .ok (.getfield 9, 3) := by decide +kernel
theorem d40 : decode yB 40 = .ok (.aload_n 2, 1) := by decide +kernel
theorem d41 : decode yB 41 = .ok (.getfield 9, 3) := by decide +kernel
theorem d44 : decode yB 44 = .ok (.invokestatic 541, 3) := by decide +kernel
theorem d47 : decode yB 47 = .ok (.ifCond (.eq) 7, 3) := by decide +kernel
theorem d50 : decode yB 50 = .ok (.iconst 1, 1) := by decide +kernel
theorem d51 : decode yB 51 = .ok (.goto 4, 3) := by decide +kernel
theorem d54 : decode yB 54 = .ok (.iconst 0, 1) := by decide +kernel
theorem d55 : decode yB 55 = .ok (.ireturn, 1) := by decide +kernel
def site : List Cond := [.classLink "java/lang/String" 10 "java/lang/String", .fieldLink "java/lang/String" 38 "java/lang/String" "COMPACT_STRINGS" "Z", .fieldLink "java/lang/String" 15 "java/lang/String" "coder" "B", .fieldLink "java/lang/String" 9 "java/lang/String" "value" "[B", LEq.tab] ++ staticW "java/lang/String" 541 LEq.yN
def tab : Cond := tabOf yN yB 3 (some .boolean) site
def P (x t : Addr) (V : Cell) (cd : Int32) (n : Nat) (f : Nat → Int32) (y t' : Addr) (V' : Cell) (cd' : Int32) (k : Nat) (g : Nat → Int32) (z : Int32) (args : Array Value) (s : State) : Prop := args = #[.ref x, .ref y] ∧ Txt x t V cd n f s ∧ Txt y t' V' cd' k g s ∧ StaticIs s "java/lang/String" "COMPACT_STRINGS" "Z" (.int z) ∧ ¬ z = 0
/-- equals(Object) of two Strings: whether the texts are the same -/
theorem law (l : Launch) (x t : Addr) (V : Cell) (cd : Int32) (n : Nat) (f : Nat → Int32) (y t' : Addr) (V' : Cell) (cd' : Int32) (k : Nat) (g : Nat → Int32) (z : Int32) : Law l yN 2 1 1 14 yB 3 (some .boolean) site (P x t V cd n f y t' V' cd' k g z) (Says01 (SameT n f k g)) [] 0 0 := by
  refine Law.of_walk (plainFor_of_name (by decide +kernel)) (by decide +kernel) (by decide +kernel) (by decide) (fun _ _ h => by rw [h.1]; rfl) (fun _ U U' hal hh h => ⟨h.1, h.2.1.mv hal hh, h.2.2.1.mv hal hh, h.2.2.2.1.there hal hh, h.2.2.2.2⟩) (fun r U U' V V' h1 hal h2 h => Says01.mv r U U' V V' h1 hal h2 h) ?_
  intro p e s m args below meth c s₁ X0 hexec hbytes hml hret hlk hnm hown hh0 W hP
  obtain ⟨rfl, hx, hy, s1, hz⟩ := hP
  have c1 : Steps p.tables e below (s₁.setTop (entryFrame m #[.ref x, .ref y] 3)) (s₁.setTop (mkF m 2 #[.val (.ref x), .val (.ref y), .unset] [.ref y, .ref x])) := Steps.trans (entry rfl) (by
    show Steps p.tables e below (s₁.setTop (mkF m 0 #[.val (.ref x), .val (.ref y), .unset] [])) _
    refine XS.aloadN X0.here hexec rfl (hb hbytes d0) rfl rfl ?_
    refine XS.aloadN X0.here hexec rfl (hb hbytes d1) rfl rfl ?_
    exact Steps.refl _)
  by_cases hxy : x = y
  · have c2 : Steps p.tables e below (s₁.setTop (entryFrame m #[.ref x, .ref y] 3)) (s₁.setTop (mkF m 6 #[.val (.ref x), .val (.ref y), .unset] [.int 1])) := c1.trans (by
      refine acmpNo X0.here hexec rfl (hb hbytes d2) rfl rfl rfl (by simp [acmp, hxy]) ?_
      refine iconstV X0.here hexec rfl 1 (hb hbytes d5) (by decide) ?_
      exact Steps.refl _)
    subst hxy
    have ec : cd = cd' := by
      obtain ⟨D, fd, a1, a2, a3⟩ := hx.2.2.1
      obtain ⟨D', fd', b1, b2, b3⟩ := hy.2.2.1
      cases a1.symm.trans b1
      obtain ⟨q1, q2, q3, q4⟩ := a2.1
      obtain ⟨r1, r2, r3, r4⟩ := b2.1
      cases q4.symm.trans r4
      cases a3.symm.trans b3; rfl
    have et : t = t' := by
      obtain ⟨D, fd, a1, a2, a3⟩ := hx.2.1
      obtain ⟨D', fd', b1, b2, b3⟩ := hy.2.1
      cases a1.symm.trans b1
      obtain ⟨q1, q2, q3, q4⟩ := a2.1
      obtain ⟨r1, r2, r3, r4⟩ := b2.1
      cases q4.symm.trans r4
      cases a3.symm.trans b3; rfl
    subst ec et
    have ev : V = V' := by cases hx.2.2.2.1.1.symm.trans hy.2.2.2.1.1; rfl
    subst ev
    have hs : SameT n f k g := (Cod.eqv hx.2.2.2.2.1 hy.2.2.2.2.1 hx.2.2.2.2.2 hy.2.2.2.2.2).mp ⟨rfl, fun _ _ => rfl⟩
    exact ⟨s₁, some (.int 1), _, _, _, X0, rfl, rfl, rfl, (fun h => by cases h), ⟨1, rfl, hh0, Or.inl ⟨rfl, hs⟩⟩, fun fs hl => c2.trans (X0.ireturnOut hexec hret rfl (Or.inr (Or.inl rfl)) (hb hbytes d6) hl)⟩
  · have c2 : Steps p.tables e below (s₁.setTop (entryFrame m #[.ref x, .ref y] 3)) (s₁.setTop (mkF m 8 #[.val (.ref x), .val (.ref y), .unset] [.ref y])) := c1.trans (by
      refine acmpYes X0.here hexec rfl (pc0 := 2) rfl (hb hbytes d2) rfl rfl rfl (by simp [acmp, hxy]) (by decide) rfl ?_
      refine XS.aloadN X0.here hexec rfl (hb hbytes d7) rfl rfl ?_
      exact Steps.refl _)
    obtain ⟨T3, X3, q3, st3⟩ := cinst X0 hexec hown (wk W (.classLink "java/lang/String" 10 "java/lang/String")) (hy.mv X0.warmed.alike hh0).1 (g := (mkF m 8 #[.val (.ref x), .val (.ref y), .unset] [.ref y])) rfl (rest := []) rfl (hb hbytes d8)
    have hh3 := q3.trans hh0
    have c4 : Steps p.tables e below (s₁.setTop (entryFrame m #[.ref x, .ref y] 3)) (T3.setTop (mkF m 15 #[.val (.ref x), .val (.ref y), .unset] [.ref y])) := (c2.trans (st3 _ (Steps.refl _))).trans (by
      refine XS.ifNo X3.here hexec rfl (hb hbytes d11) rfl (i0_eq_f (by decide)) ?_
      refine XS.aloadN X3.here hexec rfl (hb hbytes d14) rfl rfl ?_
      exact Steps.refl _)
    obtain ⟨T5, X5, q5, st5⟩ := cself X3 hexec hown (wk W (.classLink "java/lang/String" 10 "java/lang/String")) (hy.mv X3.warmed.alike hh3).1 (g := (mkF m 15 #[.val (.ref x), .val (.ref y), .unset] [.ref y])) rfl (rest := []) rfl (hb hbytes d15)
    have hh5 := q5.trans hh3
    have c6 : Steps p.tables e below (s₁.setTop (entryFrame m #[.ref x, .ref y] 3)) (T5.setTop (mkF m 19 #[.val (.ref x), .val (.ref y), .val (.ref y)] [])) := (c4.trans (st5 _ (Steps.refl _))).trans (by
      refine XS.astoreN X5.here hexec rfl (hb hbytes d18) rfl rfl rfl ?_
      exact Steps.refl _)
    obtain ⟨T7, X7, q7, st7⟩ := X5.sget hexec hown (wk W (.fieldLink "java/lang/String" 38 "java/lang/String" "COMPACT_STRINGS" "Z")) s1 (fun _ _ h => by rw [hh5]; exact h) (g := (mkF m 19 #[.val (.ref x), .val (.ref y), .val (.ref y)] [])) rfl (hb hbytes d19)
    have hh7 := q7.trans hh5
    have c8 : Steps p.tables e below (s₁.setTop (entryFrame m #[.ref x, .ref y] 3)) (T7.setTop (mkF m 26 #[.val (.ref x), .val (.ref y), .val (.ref y)] [.ref x])) := (c6.trans (st7 _ (Steps.refl _))).trans (by
      refine XS.ifNo X7.here hexec rfl (hb hbytes d22) rfl (i0_eq_f hz) ?_
      refine XS.aloadN X7.here hexec rfl (hb hbytes d25) rfl rfl ?_
      exact Steps.refl _)
    obtain ⟨T9, X9, q9, st9⟩ := X7.hget hexec hown (wk W (.fieldLink "java/lang/String" 15 "java/lang/String" "coder" "B")) (hx.mv X7.warmed.alike hh7).2.2.1 (g := (mkF m 26 #[.val (.ref x), .val (.ref y), .val (.ref y)] [.ref x])) rfl (rest := []) rfl (hb hbytes d26)
    have hh9 := q9.trans hh7
    have c10 : Steps p.tables e below (s₁.setTop (entryFrame m #[.ref x, .ref y] 3)) (T9.setTop (mkF m 30 #[.val (.ref x), .val (.ref y), .val (.ref y)] [.ref y, .int cd])) := (c8.trans (st9 _ (Steps.refl _))).trans (by
      refine XS.aloadN X9.here hexec rfl (hb hbytes d29) rfl rfl ?_
      exact Steps.refl _)
    obtain ⟨T11, X11, q11, st11⟩ := X9.hget hexec hown (wk W (.fieldLink "java/lang/String" 15 "java/lang/String" "coder" "B")) (hy.mv X9.warmed.alike hh9).2.2.1 (g := (mkF m 30 #[.val (.ref x), .val (.ref y), .val (.ref y)] [.ref y, .int cd])) rfl (rest := [.int cd]) rfl (hb hbytes d30)
    have hh11 := q11.trans hh9
    have c12 : Steps p.tables e below (s₁.setTop (entryFrame m #[.ref x, .ref y] 3)) (T11.setTop (mkF m 33 #[.val (.ref x), .val (.ref y), .val (.ref y)] [.int cd', .int cd])) := c10.trans (st11 _ (Steps.refl _))
    by_cases hcd : cd = cd'
    · subst hcd
      have c13 : Steps p.tables e below (s₁.setTop (entryFrame m #[.ref x, .ref y] 3)) (T11.setTop (mkF m 37 #[.val (.ref x), .val (.ref y), .val (.ref y)] [.ref x])) := c12.trans (by
        refine XS.icmpNo X11.here hexec rfl (hb hbytes d33) rfl (ii_ne_f rfl) ?_
        refine XS.aloadN X11.here hexec rfl (hb hbytes d36) rfl rfl ?_
        exact Steps.refl _)
      obtain ⟨T14, X14, q14, st14⟩ := X11.hget hexec hown (wk W (.fieldLink "java/lang/String" 9 "java/lang/String" "value" "[B")) (hx.mv X11.warmed.alike hh11).2.1 (g := (mkF m 37 #[.val (.ref x), .val (.ref y), .val (.ref y)] [.ref x])) rfl (rest := []) rfl (hb hbytes d37)
      have hh14 := q14.trans hh11
      have c15 : Steps p.tables e below (s₁.setTop (entryFrame m #[.ref x, .ref y] 3)) (T14.setTop (mkF m 41 #[.val (.ref x), .val (.ref y), .val (.ref y)] [.ref y, .ref t])) := (c13.trans (st14 _ (Steps.refl _))).trans (by
        refine XS.aloadN X14.here hexec rfl (hb hbytes d40) rfl rfl ?_
        exact Steps.refl _)
      obtain ⟨T16, X16, q16, st16⟩ := X14.hget hexec hown (wk W (.fieldLink "java/lang/String" 9 "java/lang/String" "value" "[B")) (hy.mv X14.warmed.alike hh14).2.1 (g := (mkF m 41 #[.val (.ref x), .val (.ref y), .val (.ref y)] [.ref y, .ref t])) rfl (rest := [.ref t]) rfl (hb hbytes d41)
      have hh16 := q16.trans hh14
      have c17 : Steps p.tables e below (s₁.setTop (entryFrame m #[.ref x, .ref y] 3)) (T16.setTop (mkF m 44 #[.val (.ref x), .val (.ref y), .val (.ref y)] [.ref t', .ref t])) := c15.trans (st16 _ (Steps.refl _))
      obtain ⟨v18, T18, X18, E18, g18⟩ := X16.callS hexec (LEq.law l t V t' V') hown (wks W (staticW "java/lang/String" 541 LEq.yN)) (wk W LEq.tab) (W := 0) (Nat.le_of_ble_eq_true rfl) (Nat.le_of_ble_eq_true rfl) (Nat.le_refl _) (Nat.le_refl _) (g := (mkF m 44 #[.val (.ref x), .val (.ref y), .val (.ref y)] [.ref t', .ref t])) rfl (by rw [hml]; rfl) c17 (argsL := [.ref t, .ref t']) (rest := []) rfl rfl (by show 2 * 0 + 0 ≤ _; decide) (hb hbytes d44) (⟨rfl, hx.2.2.2.1.mv X16.warmed.alike hh16, hx.2.2.2.2.1.ty, hy.2.2.2.1.mv X16.warmed.alike hh16, hy.2.2.2.2.1.ty⟩)
      obtain ⟨v, rfl, q18, hv⟩ := E18
      have iff := Cod.eqv hx.2.2.2.2.1 hy.2.2.2.2.1 hx.2.2.2.2.2 hy.2.2.2.2.2
      rcases hv with ⟨rfl, he⟩ | ⟨rfl, he⟩
      · have c19 : Steps p.tables e below (s₁.setTop (entryFrame m #[.ref x, .ref y] 3)) (T18.setTop (mkF m 55 #[.val (.ref x), .val (.ref y), .val (.ref y)] [.int 1])) := Steps.trans g18 (by
          refine XS.ifNo X18.here hexec rfl (hb hbytes d47) rfl (i0_eq_f (by decide)) ?_
          refine iconstV X18.here hexec rfl 1 (hb hbytes d50) (by decide) ?_
          refine XS.goto X18.here hexec rfl (pc0 := 51) rfl (hb hbytes d51) (by decide) rfl ?_
          exact Steps.refl _)
        exact ⟨T18, some (.int 1), _, _, _, X18, rfl, rfl, rfl, (fun h => by cases h), ⟨1, rfl, q18.trans hh16, Or.inl ⟨rfl, iff.mp he⟩⟩, fun fs hl => c19.trans (X18.ireturnOut hexec hret rfl (Or.inr (Or.inl rfl)) (hb hbytes d55) hl)⟩
      · have c19 : Steps p.tables e below (s₁.setTop (entryFrame m #[.ref x, .ref y] 3)) (T18.setTop (mkF m 55 #[.val (.ref x), .val (.ref y), .val (.ref y)] [.int 0])) := Steps.trans g18 (by
          refine XS.ifYes X18.here hexec rfl (pc0 := 47) rfl (hb hbytes d47) rfl (i0_eq_t rfl) (by decide) rfl ?_
          refine iconstV X18.here hexec rfl 0 (hb hbytes d54) (by decide) ?_
          exact Steps.refl _)
        exact ⟨T18, some (.int 0), _, _, _, X18, rfl, rfl, rfl, (fun h => by cases h), ⟨0, rfl, q18.trans hh16, Or.inr ⟨rfl, fun q => he (iff.mpr q)⟩⟩, fun fs hl => c19.trans (X18.ireturnOut hexec hret rfl (Or.inr (Or.inl rfl)) (hb hbytes d55) hl)⟩
    · have c13 : Steps p.tables e below (s₁.setTop (entryFrame m #[.ref x, .ref y] 3)) (T11.setTop (mkF m 55 #[.val (.ref x), .val (.ref y), .val (.ref y)] [.int 0])) := c12.trans (by
        refine XS.icmpYes X11.here hexec rfl (pc0 := 33) rfl (hb hbytes d33) rfl (ii_ne_t hcd) (by decide) rfl ?_
        refine iconstV X11.here hexec rfl 0 (hb hbytes d54) (by decide) ?_
        exact Steps.refl _)
      exact ⟨T11, some (.int 0), _, _, _, X11, rfl, rfl, rfl, (fun h => by cases h), ⟨0, rfl, hh11, Or.inr ⟨rfl, Cod.dif hx.2.2.2.2.1 hy.2.2.2.2.1 hcd⟩⟩, fun fs hl => c13.trans (X11.ireturnOut hexec hret rfl (Or.inr (Or.inl rfl)) (hb hbytes d55) hl)⟩
theorem pays {l : Launch} {R : Room} {p : Program} {e : Env} {below : List Frame} {s : State} {sargs : Array Value} {len W : Nat} (x t : Addr) (V : Cell) (cd : Int32) (n : Nat) (f : Nat → Int32) (y t' : Addr) (V' : Cell) (cd' : Int32) (k : Nat) (g : Nat → Int32) (z : Int32) (htab : tab.before sargs s = true) (hfr : 2 ≤ R.frames) (hlo : W + 28 ≤ R.locals) :
    Back l R p e below s sargs yN len W (fun A₁ a₁ => A₁.cells + 0 ≤ R.cells ∧ A₁.slots + 0 ≤ R.slots ∧ P x t V cd n f y t' V' cd' k g z a₁ A₁.U) (fun A₁ _ v₁ B₁ => Says01 (SameT n f k g) v₁ A₁.U B₁.U ∧ B₁.locs = A₁.locs ++ [] ∧ B₁.cells = A₁.cells + 0 ∧ B₁.slots = A₁.slots + 0) :=
  (law l x t V cd n f y t' V' cd' k g z).pays htab hfr (by omega)
end SEq
end StrChars
namespace StrChars.Road
open Jvm Sem ClassFile Op Lib Jvm.Stand Jvm.Free Jvm.Free.XT
open Jvm.Lib.Cold (StaticIs)
/-- the words of String.equals(Object) -/
abbrev wordsEq : List Jvm.Cond := [.code SEq.yN SEq.yB 3 (some .boolean), .initialized ST, .classLink ST 10 ST, .fieldLink ST 38 ST "COMPACT_STRINGS" "Z", .fieldLink ST 15 ST "coder" "B", .fieldLink ST 9 ST "value" "[B", .methodLink ST 541 LEq.yN, .static LEq.yN, .code LEq.yN LEq.yB 3 (some .boolean), .initialized "java/lang/StringLatin1"]
theorem tabEq_of {a : Array Value} {s : State} (h : ∀ w ∈ wordsEq, w.before a s = true) : SEq.tab.before a s = true := by
  have hl : LEq.tab.before a s = true := unparts (wk h (.code LEq.yN LEq.yB 3 (some .boolean))) (wks h (.initialized LEq.yN.cls :: LEq.site))
  have q := consq hl h
  exact unparts (wk q (.code SEq.yN SEq.yB 3 (some .boolean))) (wks q (.initialized SEq.yN.cls :: SEq.site))
theorem movedEq {Z s : State} {a0 args : Array Value} (hZ : Z.Warmed39 s.vm) (hw : ∀ d ∈ wordsEq, d.before a0 Z = true) : ∀ d ∈ wordsEq, d.before args s = true := fun d hd => by
  have t : ∀ d ∈ wordsEq, (d.onTables && d.keepsFace) = true := by decide +kernel
  exact RoadKit.mv hZ (hw d hd) (t d hd)
/-- the road's facts of a String, as the laws ask it -/
theorem txt_of {Z U : State} {a0 : Array Value} {kI : Nat} (wi : (Jvm.Cond.instantiable ST kI).before a0 Z = true) (al : Z.vm.Alike U.vm) {x t : Addr} {kb : ClassId} {cs : List Int32} {cd N2 : Int32} {vs : List Value} (E : RoadKit.Exa Z U.heap x ST) (V : RoadKit.Fld Z U.heap x ST "value" "[B" (.ref t)) (C : RoadKit.Fld Z U.heap x ST "coder" "B" (.int cd)) (K : RoadKit.Arv Z U.heap t kb .byte N2 vs (.int 0)) (hc : CodA cs cd N2 vs) (hb : ∀ c ∈ cs, ¬ c < 0 ∧ ¬ (65535 : Int32) < c) (l2 : cs.length ≤ 4000) :
    ∃ A, Txt x t A cd cs.length (fun j => cs.getD j 0) U := by
  obtain ⟨A, K1, K2, K3, K4, K5, K6⟩ := K
  have hcod := hc.cod (by omega) K3 K5
  obtain ⟨D, fV, fC, hB, F1, F2, g1, g2, -, -⟩ := strObj wi al E V C
  exact ⟨A, ⟨_, hB.2.2.1, D, hB.1, rfl, by cases q : D.vm <;> first | rfl | exact absurd q (hB.2.1.2 _)⟩, Has.of hB F1 g1, Has.of hB F2 g2, ⟨K1.1, State.isArrayOf_alike al K1.2.1, K1.2.2, by rcases hcod with ⟨-, q, -⟩ | ⟨-, q, -⟩ <;> omega⟩, hcod, fun j hj => by
    have e : cs.getD j 0 = cs[j] := by simp [List.getD_eq_getElem?_getD, hj]
    show ¬ cs.getD j 0 < 0 ∧ ¬ 65535 < cs.getD j 0
    rw [e]; exact hb _ (List.getElem_mem _)⟩
theorem same_list (cs ds : List Int32) : SameT cs.length (fun j => cs.getD j 0) ds.length (fun j => ds.getD j 0) ↔ cs = ds := by
  constructor
  · rintro ⟨e, q⟩
    refine List.ext_getElem e fun j h1 h2 => ?_
    have := q j h1
    simpa [List.getD_eq_getElem?_getD, h1, h2] using this
  · rintro rfl
    exact ⟨rfl, fun _ _ => rfl⟩
/-- **equals(Object) OF TWO SUCH STRINGS**: 1 just where the chars are the same -/
theorem eqW {p : Program} {l : Launch} {e : Env} {R : Room} {s : State} {args : Array Value} {below : List Frame} {len W : Nat} {Z : State} {a0 : Array Value} {h : Heap} (hZ : Z.Warmed39 s.vm) (hw : ∀ d ∈ wordsEq, d.before a0 Z = true) {kI : Nat} (wi : (Jvm.Cond.instantiable ST kI).before a0 Z = true)
    {x t : Addr} {kb : ClassId} {cs : List Int32} {cd N2 : Int32} {vs : List Value} (E : RoadKit.Exa Z h x ST) (V : RoadKit.Fld Z h x ST "value" "[B" (.ref t)) (C : RoadKit.Fld Z h x ST "coder" "B" (.int cd)) (K : RoadKit.Arv Z h t kb .byte N2 vs (.int 0)) (hc : CodA cs cd N2 vs) (hb : ∀ c ∈ cs, ¬ c < 0 ∧ ¬ (65535 : Int32) < c) (l2 : cs.length ≤ 4000)
    {y t' : Addr} {kb' : ClassId} {ds : List Int32} {cd' N2' : Int32} {vs' : List Value} (E' : RoadKit.Exa Z h y ST) (V' : RoadKit.Fld Z h y ST "value" "[B" (.ref t')) (C' : RoadKit.Fld Z h y ST "coder" "B" (.int cd')) (K' : RoadKit.Arv Z h t' kb' .byte N2' vs' (.int 0)) (hc' : CodA ds cd' N2' vs') (hb' : ∀ c ∈ ds, ¬ c < 0 ∧ ¬ (65535 : Int32) < c) (l2' : ds.length ≤ 4000)
    {z : Int32} (S : RoadKit.Sta Z h ST "COMPACT_STRINGS" "Z" (.int z)) (hz : ¬ z = 0) (hfr : 2 ≤ R.frames) (hlo : W + 28 ≤ R.locals) :
    Back l R p e below s args (⟨"java/lang/String", "equals", "(Ljava/lang/Object;)Z"⟩ : MethodName) len W (fun P a => a = #[.ref x, .ref y] ∧ P.U.heap = h ∧ P.cells + 0 ≤ R.cells ∧ P.slots + 0 ≤ R.slots)
      (fun P _ v B => ∃ L, (((v = some (.int 1) ∧ cs = ds) ∨ (v = some (.int 0) ∧ ¬ cs = ds)) ∧ L = [] ∧ B.U.heap = h) ∧ B.locs = P.locs ++ L ∧ B.cells = P.cells + 0 ∧ B.slots = P.slots + 0) := by
  intro m meth c P g ig mk a X hg hsize hdg hW hn hp'
  obtain ⟨rfl, rfl, r1, r2⟩ := hp'
  have al : Z.vm.Alike P.U.vm := hZ.alike.trans X.warmed.alike
  obtain ⟨A, hx⟩ := txt_of wi al E V C K hc hb l2
  obtain ⟨A', hy⟩ := txt_of wi al E' V' C' K' hc' hb' l2'
  obtain ⟨v, B, X', ⟨⟨w, hv, hh, hq⟩, hl, hk, hs⟩, st⟩ := SEq.pays x t A cd cs.length (fun j => cs.getD j 0) y t' A' cd' ds.length (fun j => ds.getD j 0) z (tabEq_of (movedEq hZ hw)) hfr hlo m meth c P g ig mk _ X hg hsize hdg hW hn ⟨r1, r2, rfl, hx, hy, sta_is al S, hz⟩
  refine ⟨v, B, X', ⟨[], ⟨?_, rfl, hh⟩, hl, hk, hs⟩, st⟩
  rcases hq with ⟨rfl, q⟩ | ⟨rfl, q⟩
  · exact Or.inl ⟨hv, (same_list cs ds).mp q⟩
  · exact Or.inr ⟨hv, fun e => q ((same_list cs ds).mpr e)⟩
end StrChars.Road
namespace StrChars.Road
open Jvm Sem ClassFile Op Lib Jvm.Stand Jvm.Free Jvm.Free.XT
open Jvm.Lib.Cold (StaticIs)
/-- what backV says of its String, as the contracts of this text ask it: cs's low bytes, coder 0 -/
theorem codOf {cs : List Int32} {n : Nat} (hn : cs.length = n) (hb : ∀ c ∈ cs, ¬ 255 < c) : CodA cs 0 (Int32.ofNat n) ((cs.map lo8).map Value.int) := Or.inl ⟨rfl, by rw [hn], by simp [List.map_map, Function.comp_def], hb⟩
end StrChars.Road
end Jvm.Pilot.@@N@@
namespace Jvm.Pilot.@@N@@
open Jvm Jvm.ClassFile Sem Op Lib Jvm.Free Jvm.Stand Jvm.LawKit Jvm.RoadKit Bundle Jvm.Pilot.@@N@@.Jvm.D
def Go (p : Program) (e : Env) (below : List Frame) (s : State) (Q : Option Value → Heap → List Loc → Prop) (rc rs : Nat) (S : State) : Prop :=
  ∃ s₂ o, Steps p.tables e below S s₂ ∧ s₂.status = .running ∧ Ended s₂ below o ∧ ∃ v L, o = .returned v ∧ Q v s₂.heap L ∧ FrameEnd s o s₂ L rc rs
section OwnGo
variable {p : Program} {l : Launch} {e : Env} {R : Room} {s : State} {m : MethodId} {args : Array Value} {below : List Frame} {meth : Method} {c : Code} {T : State} {locs : List Loc} {cells slots : Nat} {Q : Option Value → Heap → List Loc → Prop} {rc rs : Nat}
theorem Go.via {S S' : State} (h : ∀ t, Steps p.tables e below S' t → Steps p.tables e below S t) (g : Go p e below s Q rc rs S') : Go p e below s Q rc rs S :=
  let ⟨s₂, o, a, b⟩ := g; ⟨s₂, o, h _ a, b⟩
theorem Go.retI (X : Stand p l e R s m args below meth c T locs cells slots) (hx : p.tables.exec = Jvm.exec) (hlk : meth.locks = false) {pc : Nat} {Ls : Array Slot} {z : Int32} {rest : List Value} (hret : meth.sig.returnType = some .int) (hd : decode c.code pc = .ok (.ireturn, 1))
    (hq : Q (some (.int z)) T.heap locs) (hc : cells ≤ rc) (hs : slots ≤ rs) : Go p e below s Q rc rs (T.setTop (mkF m pc Ls (.int z :: rest))) := by
  obtain ⟨fs, hr, hrun, hended, hW, hsame⟩ := X.leave (v := some (.int z)) (fun h => by rw [hret] at h; cases h)
  exact ⟨_, _, retOut X hx hret rfl (Or.inl ⟨rfl, Or.inl rfl, _, rfl⟩) hd hr, hrun, hended, _, _, rfl, hq, ⟨_, rfl⟩, hW, hsame.mono hc hs⟩
theorem Go.retB (X : Stand p l e R s m args below meth c T locs cells slots) (hx : p.tables.exec = Jvm.exec) (hlk : meth.locks = false) {pc : Nat} {Ls : Array Slot} {z : Int32} {rest : List Value} (hret : meth.sig.returnType = some .boolean) (hd : decode c.code pc = .ok (.ireturn, 1)) (hz : narrow .boolean (.int z) = .int z)
    (hq : Q (some (.int z)) T.heap locs) (hc : cells ≤ rc) (hs : slots ≤ rs) : Go p e below s Q rc rs (T.setTop (mkF m pc Ls (.int z :: rest))) := by
  obtain ⟨fs, hr, hrun, hended, hW, hsame⟩ := X.leave (v := some (.int z)) (fun h => by rw [hret] at h; cases h)
  exact ⟨_, _, retOut X hx hret hz (Or.inl ⟨rfl, Or.inr (Or.inl rfl), _, rfl⟩) hd hr, hrun, hended, _, _, rfl, hq, ⟨_, rfl⟩, hW, hsame.mono hc hs⟩
theorem Go.retC (X : Stand p l e R s m args below meth c T locs cells slots) (hx : p.tables.exec = Jvm.exec) (hlk : meth.locks = false) {pc : Nat} {Ls : Array Slot} {z : Int32} {rest : List Value} (hret : meth.sig.returnType = some .char) (hd : decode c.code pc = .ok (.ireturn, 1)) (hz : narrow .char (.int z) = .int z)
    (hq : Q (some (.int z)) T.heap locs) (hc : cells ≤ rc) (hs : slots ≤ rs) : Go p e below s Q rc rs (T.setTop (mkF m pc Ls (.int z :: rest))) := by
  obtain ⟨fs, hr, hrun, hended, hW, hsame⟩ := X.leave (v := some (.int z)) (fun h => by rw [hret] at h; cases h)
  exact ⟨_, _, retOut X hx hret hz (Or.inl ⟨rfl, Or.inr (Or.inr (Or.inr (Or.inl rfl))), _, rfl⟩) hd hr, hrun, hended, _, _, rfl, hq, ⟨_, rfl⟩, hW, hsame.mono hc hs⟩
theorem Go.retJ (X : Stand p l e R s m args below meth c T locs cells slots) (hx : p.tables.exec = Jvm.exec) (hlk : meth.locks = false) {pc : Nat} {Ls : Array Slot} {z : Int64} {rest : List Value} (hret : meth.sig.returnType = some .long) (hd : decode c.code pc = .ok (.lreturn, 1))
    (hq : Q (some (.long z)) T.heap locs) (hc : cells ≤ rc) (hs : slots ≤ rs) : Go p e below s Q rc rs (T.setTop (mkF m pc Ls (.long z :: rest))) := by
  obtain ⟨fs, hr, hrun, hended, hW, hsame⟩ := X.leave (v := some (.long z)) (fun h => by rw [hret] at h; cases h)
  exact ⟨_, _, retOut X hx hret rfl (Or.inr (Or.inl ⟨rfl, rfl, _, rfl⟩)) hd hr, hrun, hended, _, _, rfl, hq, ⟨_, rfl⟩, hW, hsame.mono hc hs⟩
theorem Go.retA (X : Stand p l e R s m args below meth c T locs cells slots) (hx : p.tables.exec = Jvm.exec) (hlk : meth.locks = false) {pc : Nat} {Ls : Array Slot} {z : Value} {rest : List Value} {t : FieldType} (hret : meth.sig.returnType = some t) (ht : t.isReference = true) (hz : z.isRef = true) (hn : narrow t z = z) (hd : decode c.code pc = .ok (.areturn, 1))
    (hq : Q (some z) T.heap locs) (hc : cells ≤ rc) (hs : slots ≤ rs) : Go p e below s Q rc rs (T.setTop (mkF m pc Ls (z :: rest))) := by
  obtain ⟨fs, hr, hrun, hended, hW, hsame⟩ := X.leave (v := some z) (fun h => by rw [hret] at h; cases h)
  exact ⟨_, _, retOut X hx hret hn (Or.inr (Or.inr (Or.inr (Or.inr ⟨rfl, ht, hz⟩)))) hd hr, hrun, hended, _, _, rfl, hq, ⟨_, rfl⟩, hW, hsame.mono hc hs⟩
theorem Go.retV (X : Stand p l e R s m args below meth c T locs cells slots) (hx : p.tables.exec = Jvm.exec) (hlk : meth.locks = false) {pc : Nat} {Ls : Array Slot} (hret : meth.sig.returnType = none) (hd : decode c.code pc = .ok (.return_, 1))
    (hq : Q none T.heap locs) (hc : cells ≤ rc) (hs : slots ≤ rs) : Go p e below s Q rc rs (T.setTop (mkF m pc Ls [])) := by
  obtain ⟨fs, hr, hrun, hended, hW, hsame⟩ := X.leave (v := none) (fun _ => rfl)
  exact ⟨_, _, X.returnOut hx hret hd hr, hrun, hended, _, _, rfl, hq, ⟨_, rfl⟩, hW, hsame.mono hc hs⟩
def GoW (p : Program) (e : Env) (below : List Frame) (s : State) (Q : Option Value → Heap → List Loc → Prop) (rc rs : Nat) (S : State) : Prop :=
  ∃ s₂ o, Steps p.tables e below S s₂ ∧ s₂.status = .running ∧ Ended s₂ below o ∧ ∃ v L, o = .returned v ∧ Q v s₂.heap L ∧ ReturnedEndW s o s₂ L rc rs
theorem GoW.via {S S' : State} (h : ∀ t, Steps p.tables e below S' t → Steps p.tables e below S t) (g : GoW p e below s Q rc rs S') : GoW p e below s Q rc rs S :=
  let ⟨s₂, o, a, b⟩ := g; ⟨s₂, o, h _ a, b⟩
theorem GoW.retB {vm₁ : Vm} (X : Stand p l e R (s.setVm vm₁) m args below meth c T locs cells slots) (hx : p.tables.exec = Jvm.exec) (hlk : meth.locks = false) {n : Nat} (hS : s.Since vm₁ n) (hn : n ≤ T.heap.size) {pc : Nat} {Ls : Array Slot} {z : Int32} {rest : List Value} (hret : meth.sig.returnType = some .boolean) (hd : decode c.code pc = .ok (.ireturn, 1)) (hz : narrow .boolean (.int z) = .int z)
    (hq : Q (some (.int z)) T.heap locs) (hc : cells ≤ rc) (hs : slots ≤ rs) : GoW p e below s Q rc rs (T.setTop (mkF m pc Ls (.int z :: rest))) := by
  obtain ⟨fs, hr, hrun, hended, hE⟩ := X.leaveW hS hn (v := some (.int z)) (fun h => by rw [hret] at h; cases h)
  exact ⟨_, _, retOut X hx hret hz (Or.inl ⟨rfl, Or.inr (Or.inl rfl), _, rfl⟩) hd hr, hrun, hended, _, _, rfl, hq, hE.1, hE.2.1, hE.2.2.1, hE.2.2.2.mono hc hs⟩
end OwnGo
theorem own_sel {s : State} {args : Array Value} {y : MethodName} {n : Nat} (wi : (Jvm.Cond.instantiable y.cls n).before args s = true) (hpriv : s.PrivateAt y) (hinst : (Jvm.Cond.instanceMethod y).before args s = true) (hy : y.cls ≠ "java/lang/invoke/MethodHandle" ∧ y.cls ≠ "java/lang/invoke/VarHandle") : (Jvm.Cond.selects y.cls y y).before args s = true := by
  obtain ⟨c, k, h1, h2, h3, h4, -⟩ := Cond.instantiable_spec wi
  have h5 : k.isInterface = false := by
    cases hq : k.isInterface
    · rfl
    · rw [hq] at h4; cases h4
  exact Jvm.Stand.selects_self_of_private h1 h2 h5 hpriv hinst hy
theorem own_lc1 {x y : Int64} (h : x < y) : lcmpW x y < 0 := (lw_lt x y).mpr h
theorem own_lc2 {x y : Int64} (h : ¬ x < y) : ¬ lcmpW x y < 0 := fun q => h ((lw_lt x y).mp q)
theorem own_lc3 {x y : Int64} (h : y < x) : 0 < lcmpW x y := (lw_gt x y).mpr h
theorem own_lc4 {x y : Int64} (h : ¬ y < x) : ¬ 0 < lcmpW x y := fun q => h ((lw_gt x y).mp q)
theorem own_lc5 {x y : Int64} (h : x = y) : lcmpW x y = 0 := (lw_eq x y).mpr h
theorem own_lc6 {x y : Int64} (h : ¬ x = y) : ¬ lcmpW x y = 0 := fun q => h ((lw_eq x y).mp q)
theorem own_root {Z : State} {a0 : Array Value} {O K : String} {n : Nat} (w : (Jvm.Cond.noSuperclass O).before a0 Z = true) (wk : (Jvm.Cond.instantiable K n).before a0 Z = true) (hn : O ≠ K) : NS Z O K := by
  obtain ⟨c, k, h1, h2, h3, -, -⟩ := Cond.noSuperclass_spec w
  obtain ⟨t, kt, g1, -⟩ := Cond.instantiable_spec wk
  have ne := ids_ne h1 g1 hn
  refine ⟨c, t, h1, g1, fun fuel => ?_⟩
  cases fuel with
  | zero => rfl
  | succ f => simp [Vm.isSubclassAux, ne, h2, h3]
theorem own_no {Z : State} {a0 : Array Value} {C S K : String} {n : Nat} (w : (Jvm.Cond.superclass C S).before a0 Z = true) (wk : (Jvm.Cond.instantiable K n).before a0 Z = true) (nn : NS Z C K) (hn : C ≠ K) : ∃ c t, Z.vm.findClass C = some c ∧ Z.vm.findClass K = some t ∧ Z.vm.assignable c t = false := by
  obtain ⟨c, t, h0, g0, n3⟩ := nn
  obtain ⟨p, k, kp, h1, h2, h3, h4, h5, -, h7⟩ := Cond.superclass_spec h0 w
  obtain ⟨t', kt, g1, g2, g5, g7, -⟩ := Cond.instantiable_spec wk
  cases g0.symm.trans g1
  have ne := ids_ne h0 g0 hn
  have g8 : kt.isInterface = false := by
    cases hq : kt.isInterface
    · rfl
    · rw [hq] at g7; cases g7
  refine ⟨c, t, h0, g0, ?_⟩
  show Z.vm.assignableAux (255 + 1) c t = false
  simp [Vm.assignableAux, ne, h2, g2, h5, g5, g8, Vm.isSubclass, n3]
theorem and255_chars (x : Int32) : ¬ nar .char ((x &&& (255 : Int32)).toUInt32.toUInt16.toUInt32.toInt32) < 0 ∧ ¬ (255 : Int32) < nar .char ((x &&& (255 : Int32)).toUInt32.toUInt16.toUInt32.toInt32) := by
  have t : ∀ k : Fin 256, ¬ nar .char ((Int32.ofNat k.val).toUInt32.toUInt16.toUInt32.toInt32) < 0 ∧ ¬ (255 : Int32) < nar .char ((Int32.ofNat k.val).toUInt32.toUInt16.toUInt32.toInt32) := by decide +kernel
  have h : (x &&& 255).toBitVec.toNat < 256 := by
    simp only [Int32.toBitVec_and, BitVec.toNat_and]
    exact Nat.lt_succ_of_le Nat.and_le_right
  have e : (x &&& 255) = Int32.ofNat (x &&& 255).toBitVec.toNat := by
    apply Int32.toBitVec_inj.mp
    show _ = BitVec.ofNat 32 _
    rw [BitVec.ofNat_toNat]; simp
  rw [e]
  exact t ⟨_, h⟩
theorem up (cs : List Int32) (h : ∀ c ∈ cs, ¬ c < 0 ∧ ¬ (255 : Int32) < c) : ∀ c ∈ cs, ¬ c < 0 ∧ ¬ (65535 : Int32) < c := fun c hc => ⟨(h c hc).1, fun q => (h c hc).2 (by rw [Int32.lt_iff_toInt_lt] at q ⊢; have e1 : (65535 : Int32).toInt = 65535 := rfl; have e2 : (255 : Int32).toInt = 255 := rfl; omega)⟩
def own_ch (c : Int32) : Prop := ¬ c < 0 ∧ ¬ (255 : Int32) < c
/-- a String at a, its bytes at t: it spells cs -/
def own_SA (Z : State) (h : Heap) (a t : Addr) (cs : List Int32) : Prop := ∃ (kb : ClassId) (cd N2 : Int32) (vs : List Value), Exa Z h a "java/lang/String" ∧ Fld Z h a "java/lang/String" "value" "[B" (.ref t) ∧ Fld Z h a "java/lang/String" "coder" "B" (.int cd) ∧ Arv Z h t kb .byte N2 vs (.int 0) ∧ StrChars.Road.CodA cs cd N2 vs ∧ (∀ c ∈ cs, ¬ c < 0 ∧ ¬ (65535 : Int32) < c) ∧ cs.length ≤ 4000
section OwnSA
variable {Z : State} {h h' : Heap} {a t b : Addr} {cs : List Int32} {sl : Nat} {v : Value} {ws : List Addr}
theorem own_SA.lt (F : own_SA Z h a t cs) : a < h.size := by obtain ⟨_, _, _, _, E, -⟩ := F; exact E.lt
theorem own_SA.lt2 (F : own_SA Z h a t cs) : t < h.size := by obtain ⟨_, _, _, _, -, -, -, K, -⟩ := F; exact K.lt
theorem own_SA.ext (F : own_SA Z h a t cs) (E : Ext h h') : own_SA Z h' a t cs := by obtain ⟨k, c, n, vs, f1, f2, f3, f4, r⟩ := F; exact ⟨k, c, n, vs, f1.ext E, f2.ext E, f3.ext E, f4.ext E, r⟩
theorem own_SA.other (F : own_SA Z h a t cs) (W : Wr h h' b sl v) (q : a ≠ b) (q2 : t ≠ b) : own_SA Z h' a t cs := by obtain ⟨k, c, n, vs, f1, f2, f3, f4, r⟩ := F; exact ⟨k, c, n, vs, f1.wr W, f2.other W (Or.inl q), f3.other W (Or.inl q), f4.other W q2, r⟩
theorem own_SA.keep (F : own_SA Z h a t cs) (K : Keep h h' ws) (q : a ∉ ws) (q2 : t ∉ ws) : own_SA Z h' a t cs := by obtain ⟨k, c, n, vs, f1, f2, f3, f4, r⟩ := F; exact ⟨k, c, n, vs, f1.keep K, f2.keep K q, f3.keep K q, f4.keep K q2, r⟩
end OwnSA
theorem own_eqv {v : Option Value} {P : Prop} (h : (v = some (.int 1) ∧ P) ∨ (v = some (.int 0) ∧ ¬ P)) : ∃ r : Int32, v = some (.int r) ∧ ((r = 1 ∧ P) ∨ (r = 0 ∧ ¬ P)) := by
  rcases h with ⟨rfl, q⟩ | ⟨rfl, q⟩
  · exact ⟨1, rfl, Or.inl ⟨rfl, q⟩⟩
  · exact ⟨0, rfl, Or.inr ⟨rfl, q⟩⟩
theorem own_nar {c : Int32} (h : own_ch c) : nar .char c = c := by
  obtain ⟨h1, h2⟩ := h
  have t : ∀ k : Fin 256, nar .char (Int32.ofNat k.val) = Int32.ofNat k.val := by decide +kernel
  rw [Int32.lt_iff_toInt_lt] at h1 h2
  have e1 : (0 : Int32).toInt = 0 := rfl
  have e2 : (255 : Int32).toInt = 255 := rfl
  have e : c = Int32.ofNat c.toInt.toNat := by
    rw [← Int32.toInt_inj, Int32.toInt_ofNat_small (by omega)]
    omega
  rw [e]
  exact t ⟨c.toInt.toNat, by omega⟩
theorem own_chL (x : Int64) : own_ch ((x &&& (255 : Int64)).toInt32.toUInt32.toUInt16.toUInt32.toInt32) := by
  have t : ∀ k : Fin 256, own_ch ((Int64.ofNat k.val).toInt32.toUInt32.toUInt16.toUInt32.toInt32) := by unfold own_ch; decide +kernel
  have h : (x &&& 255).toBitVec.toNat < 256 := by
    simp only [Int64.toBitVec_and, BitVec.toNat_and]
    exact Nat.lt_succ_of_le Nat.and_le_right
  have e : (x &&& 255) = Int64.ofNat (x &&& 255).toBitVec.toNat := by
    apply Int64.toBitVec_inj.mp
    show _ = BitVec.ofNat 64 _
    rw [BitVec.ofNat_toNat]; simp
  rw [e]
  exact t ⟨_, h⟩
theorem own_chn {c : Int32} (h : own_ch c) : narrow .char (.int c) = .int c := by
  have q := own_nar h
  exact congrArg Value.int q
theorem own_l2 {a b c d : Int32} : ([a, b] = [c, d]) ↔ (a = c ∧ b = d) := by simp
theorem d1_0 : decode method_2_code 0 = .ok (.lload_n 0, 1) := by decide +kernel
theorem d1_1 : decode method_2_code 1 = .ok (.iload_n 2, 1) := by decide +kernel
theorem d1_2 : decode method_2_code 2 = .ok (.lushr, 1) := by decide +kernel
theorem d1_3 : decode method_2_code 3 = .ok (.ldc2_w 7, 3) := by decide +kernel
theorem d1_6 : decode method_2_code 6 = .ok (.land, 1) := by decide +kernel
theorem d1_7 : decode method_2_code 7 = .ok (.l2i, 1) := by decide +kernel
theorem d1_8 : decode method_2_code 8 = .ok (.i2c, 1) := by decide +kernel
theorem d1_9 : decode method_2_code 9 = .ok (.ireturn, 1) := by decide +kernel
theorem pn_0 : plainName "com/example/amendatory/amendatory/ProvisionEqualsPinLaw" = true := by first | (simp [plainName, overriddenIn]; done) | decide +kernel
theorem ef_1 (m : MethodId) (x0 : Int64) (x1 : Int32) : entryFrame m #[(.long x0), (.int x1)] 3 = mkF m 0 #[.val (.long x0), .second, .val (.int x1)] [] := by first | (simp [entryFrame, mkF, argsToLocals, Value.category]; done) | rfl
def Q1 (Z : State) (q1 : Int64) (p2 : Int32) (h0 : Heap) (n0 : Nat) (v : Option Value) (h : Heap) (L : List Loc) : Prop := ∃ r : Int32, v = some (.int r) ∧ Fr n0 L ∧ h = h0 ∧ own_ch r
set_option maxRecDepth 65536 in
set_option maxHeartbeats 40000000 in
theorem rm1 (l : Launch) (Z : State) (a0 : Array Value) (hw : ∀ d ∈ tables_1, d.before a0 Z = true) (ws : List Jvm.Cond) (q1 : Int64) (p2 : Int32) (h0 : Heap) (n0 : Nat) (Z0 : n0 ≤ h0.size) :
    MetFree l (⟨"com/example/amendatory/amendatory/ProvisionEqualsPinLaw", "ch", "(JI)C"⟩ : MethodName) (head1 (Jvm.Cond.code (⟨"com/example/amendatory/amendatory/ProvisionEqualsPinLaw", "ch", "(JI)C"⟩ : MethodName) method_2_code 3 (some .char) :: ws) ({ frames := 0, cells := 0, slots := 0, locals := 0 } : Room)) (fun a U => a = #[(.long q1), (.int p2)] ∧ Z.Warmed39 U.vm ∧ U.heap = h0) (fun _ _ _ _ _ => True) (fun _ U o U' => ∃ v L, o = .returned v ∧ Q1 Z q1 p2 h0 n0 v U'.heap L ∧ FrameEnd U o U' L ({ frames := 0, cells := 0, slots := 0, locals := 0 } : Room).cells ({ frames := 0, cells := 0, slots := 0, locals := 0 } : Room).slots) := by
  refine MetFree.of_bodySF (plainFor_of_name pn_0) hisR ?_
  intro p e s m args below meth c s₁ Bd hml0 hP hK
  obtain ⟨rfl, hZ, hh⟩ := hP
  have hx := Bd.exec
  have hby := Bd.bytes
  have hml : c.maxLocals = 3 := hml0
  have hown : s.vm.findClass "com/example/amendatory/amendatory/ProvisionEqualsPinLaw" = some m.cls := findClass_of_methodNamed Bd.named
  have hnm := (name_of_methodNamed Bd.named Bd.method).1
  have X0 : Stand p l e ({ frames := 0, cells := 0, slots := 0, locals := 0 } : Room) s m #[(.long q1), (.int p2)] below meth c s₁ [] 0 0 := Stand.of_body Bd
  have e0 : s₁.heap = h0 := by rw [← hh, Bd.state]; rfl
  have N0 := Fr.nil n0
  show Go p e below s (Q1 Z q1 p2 h0 n0) ({ frames := 0, cells := 0, slots := 0, locals := 0 } : Room).cells ({ frames := 0, cells := 0, slots := 0, locals := 0 } : Room).slots _
  refine Go.via (S' := s₁.setTop (mkF m 0 #[.val (.long q1), .second, .val (.int p2)] [])) (fun t k => castTop (ef_1 m q1 p2) k) ?_
  refine Go.via (S' := s₁.setTop (mkF m 1 #[.val (.long q1), .second, .val (.int p2)] [(.long q1)])) (fun _ k => XS.lloadN X0.here hx rfl (hb hby d1_0) rfl k) ?_
  refine Go.via (S' := s₁.setTop (mkF m 2 #[.val (.long q1), .second, .val (.int p2)] [(.int p2), (.long q1)])) (fun _ k => XS.iloadN X0.here hx rfl (hb hby d1_1) rfl k) ?_
  refine Go.via (S' := s₁.setTop (mkF m 3 #[.val (.long q1), .second, .val (.int p2)] [(.long ((q1.toUInt64 >>> (p2 &&& 0x3f).toInt64.toUInt64).toInt64))])) (fun _ k => XS.lushr X0.here hx rfl (hb hby d1_2) rfl k) ?_
  refine Go.via (S' := s₁.setTop (mkF m 6 #[.val (.long q1), .second, .val (.int p2)] [(.long (255 : Int64)), (.long ((q1.toUInt64 >>> (p2 &&& 0x3f).toInt64.toUInt64).toInt64))])) (fun _ k => X0.ldc2Long hx hown (mvT hZ (hw _ (List.mem_of_getElem? (i := 4) rfl))) (g := (mkF m 3 #[.val (.long q1), .second, .val (.int p2)] [(.long ((q1.toUInt64 >>> (p2 &&& 0x3f).toInt64.toUInt64).toInt64))])) rfl (hb hby d1_3) _ k) ?_
  refine Go.via (S' := s₁.setTop (mkF m 7 #[.val (.long q1), .second, .val (.int p2)] [(.long (((q1.toUInt64 >>> (p2 &&& 0x3f).toInt64.toUInt64).toInt64) &&& (255 : Int64)))])) (fun _ k => XS.land X0.here hx rfl (hb hby d1_6) rfl k) ?_
  refine Go.via (S' := s₁.setTop (mkF m 8 #[.val (.long q1), .second, .val (.int p2)] [(.int ((((q1.toUInt64 >>> (p2 &&& 0x3f).toInt64.toUInt64).toInt64) &&& (255 : Int64)).toInt32))])) (fun _ k => XS.l2i X0.here hx rfl (hb hby d1_7) rfl k) ?_
  refine Go.via (S' := s₁.setTop (mkF m 9 #[.val (.long q1), .second, .val (.int p2)] [(.int (((((q1.toUInt64 >>> (p2 &&& 0x3f).toInt64.toUInt64).toInt64) &&& (255 : Int64)).toInt32).toUInt32.toUInt16.toUInt32.toInt32))])) (fun _ k => XS.i2c X0.here hx rfl (hb hby d1_8) rfl k) ?_
  exact Go.retC X0 hx (BodyLoose.notSynchronized Bd) Bd.returns (hb hby d1_9) (own_chn (own_chL _)) (by rw [e0]; exact ⟨_, rfl, N0, rfl, own_chL _⟩) (by decide) (by decide)
theorem own_two_SA {Z : State} {h : Heap} {a t : Addr} {kb : ClassId} {x y x' y' : Int32} (hx : x' = x) (hy : y' = y) (E : Exa Z h a "java/lang/String") (V : Fld Z h a "java/lang/String" "value" "[B" (.ref t)) (C : Fld Z h a "java/lang/String" "coder" "B" (.int 0))
    (K : Arv Z h t kb .byte 2 ((([x', y'] : List Int32).map (fun c => c.toInt8.toInt32)).map Value.int) (.int 0)) (hp : ∀ c ∈ ([x', y'] : List Int32), ¬ c < 0 ∧ ¬ (255 : Int32) < c) : own_SA Z h a t [x, y] := by
  subst hx hy
  exact ⟨kb, 0, 2, _, E, V, C, K, StrChars.Road.codOf (n := 2) rfl (fun c hc => (hp c hc).2), up _ hp, by simp⟩
theorem d2_0 : decode method_3_code 0 = .ok (.new 9, 3) := by decide +kernel
theorem d2_3 : decode method_3_code 3 = .ok (.dup, 1) := by decide +kernel
theorem d2_4 : decode method_3_code 4 = .ok (.iconst 2, 1) := by decide +kernel
theorem d2_5 : decode method_3_code 5 = .ok (.newarray .char, 2) := by decide +kernel
theorem d2_7 : decode method_3_code 7 = .ok (.dup, 1) := by decide +kernel
theorem d2_8 : decode method_3_code 8 = .ok (.iconst 0, 1) := by decide +kernel
theorem d2_9 : decode method_3_code 9 = .ok (.iload_n 0, 1) := by decide +kernel
theorem d2_10 : decode method_3_code 10 = .ok (.castore, 1) := by decide +kernel
theorem d2_11 : decode method_3_code 11 = .ok (.dup, 1) := by decide +kernel
theorem d2_12 : decode method_3_code 12 = .ok (.iconst 1, 1) := by decide +kernel
theorem d2_13 : decode method_3_code 13 = .ok (.iload_n 1, 1) := by decide +kernel
theorem d2_14 : decode method_3_code 14 = .ok (.castore, 1) := by decide +kernel
theorem d2_15 : decode method_3_code 15 = .ok (.invokespecial 11, 3) := by decide +kernel
theorem pd_0 : parseMethodDescriptor "([C)V" = some ⟨[(.array .char)], none⟩ := by decide +kernel
theorem d2_18 : decode method_3_code 18 = .ok (.areturn, 1) := by decide +kernel
theorem ef_2 (m : MethodId) (x0 : Int32) (x1 : Int32) : entryFrame m #[(.int x0), (.int x1)] 2 = mkF m 0 #[.val (.int x0), .val (.int x1)] [] := by first | (simp [entryFrame, mkF, argsToLocals, Value.category]; done) | rfl
def Q2 (Z : State) (p1 : Int32) (p2 : Int32) (G1 : Int32) (h0 : Heap) (n0 : Nat) (v : Option Value) (h : Heap) (L : List Loc) : Prop := ∃ r t : Addr, v = some (.ref r) ∧ Fr n0 L ∧ Keep h0 h [] ∧ h0.size ≤ r ∧ h0.size ≤ t ∧ own_SA Z h r t [p1, p2]
set_option maxRecDepth 65536 in
set_option maxHeartbeats 40000000 in
theorem rm2 (l : Launch) (Z : State) (a0 : Array Value) (hw : ∀ d ∈ tables_1, d.before a0 Z = true) (ws : List Jvm.Cond) (p1 : Int32) (p2 : Int32) (G1 : Int32) (h0 : Heap) (n0 : Nat) (Z0 : n0 ≤ h0.size) (X00 : Old Z n0 h0) (O2 : Sta Z Z.heap "java/lang/String" "COMPACT_STRINGS" "Z" (.int G1)) (P5 : ¬ G1 = (0 : Int32)) (hc1 : own_ch p1) (hc2 : own_ch p2) :
    MetFree l (⟨"com/example/amendatory/amendatory/ProvisionEqualsPinLaw", "two", "(CC)Ljava/lang/String;"⟩ : MethodName) (head1 (Jvm.Cond.code (⟨"com/example/amendatory/amendatory/ProvisionEqualsPinLaw", "two", "(CC)Ljava/lang/String;"⟩ : MethodName) method_3_code 2 (some (.object "java/lang/String")) :: ws) ({ frames := 4, cells := 3, slots := 8, locals := 66 } : Room)) (fun a U => a = #[(.int p1), (.int p2)] ∧ Z.Warmed39 U.vm ∧ U.heap = h0) (fun _ _ _ _ _ => True) (fun _ U o U' => ∃ v L, o = .returned v ∧ Q2 Z p1 p2 G1 h0 n0 v U'.heap L ∧ FrameEnd U o U' L ({ frames := 4, cells := 3, slots := 8, locals := 66 } : Room).cells ({ frames := 4, cells := 3, slots := 8, locals := 66 } : Room).slots) := by
  refine MetFree.of_bodySF (plainFor_of_name pn_0) hisR ?_
  intro p e s m args below meth c s₁ Bd hml0 hP hK
  obtain ⟨rfl, hZ, hh⟩ := hP
  have hx := Bd.exec
  have hby := Bd.bytes
  have hml : c.maxLocals = 2 := hml0
  have hown : s.vm.findClass "com/example/amendatory/amendatory/ProvisionEqualsPinLaw" = some m.cls := findClass_of_methodNamed Bd.named
  have hnm := (name_of_methodNamed Bd.named Bd.method).1
  have X0 : Stand p l e ({ frames := 4, cells := 3, slots := 8, locals := 66 } : Room) s m #[(.int p1), (.int p2)] below meth c s₁ [] 0 0 := Stand.of_body Bd
  have e0 : s₁.heap = h0 := by rw [← hh, Bd.state]; rfl
  have N0 := Fr.nil n0
  show Go p e below s (Q2 Z p1 p2 G1 h0 n0) ({ frames := 4, cells := 3, slots := 8, locals := 66 } : Room).cells ({ frames := 4, cells := 3, slots := 8, locals := 66 } : Room).slots _
  refine Go.via (S' := s₁.setTop (mkF m 0 #[.val (.int p1), .val (.int p2)] [])) (fun t k => castTop (ef_2 m p1 p2) k) ?_
  have hws : ∀ d ∈ StrChars.Road.words, d.before a0 Z = true := fun d hd => hw d ((by decide +kernel : ∀ d ∈ StrChars.Road.words, d ∈ tables_1) d hd)
  obtain ⟨T1, h1, X1, e1, E1, A1, D1, -, st1⟩ := newO X0 hx hZ hown (hw _ (List.mem_of_getElem? (i := 11) rfl)) (hw _ (List.mem_of_getElem? (i := 12) rfl)) (hw _ (List.mem_of_getElem? (i := 13) rfl)) e0 (g := (mkF m 0 #[.val (.int p1), .val (.int p2)] [])) rfl (hb hby d2_0) (by decide) (by decide)
  obtain ⟨b1, g1⟩ : ∃ z, z = h0.size := ⟨_, rfl⟩
  rw [← g1] at A1 D1 st1
  have g2 : n0 ≤ b1 := Nat.le_trans Z0 (Nat.le_of_eq g1.symm)
  have g3 : h0.size ≤ b1 := Nat.le_trans (Keep.refl h0 []).1 (Nat.le_of_eq g1.symm)
  have f4 := X00.ext E1
  have z5 := Nat.le_trans Z0 E1.1
  have K6 := (Keep.refl h0 []).ext E1
  have F7 : Fld Z h1 b1 "java/lang/String" "coder" "B" (.int (0 : Int32)) := D1 (Or.inr (hw _ (List.mem_of_getElem? (i := 38) rfl))) (ty := .byte) (by decide)
  have F8 : Fld Z h1 b1 "java/lang/String" "value" "[B" .null := D1 (Or.inr (hw _ (List.mem_of_getElem? (i := 40) rfl))) (ty := (.array .byte)) (by decide)
  refine Go.via (S' := T1.setTop (mkF m 3 #[.val (.int p1), .val (.int p2)] [(.ref b1)])) (fun _ k => st1 _ k) ?_
  refine Go.via (S' := T1.setTop (mkF m 4 #[.val (.int p1), .val (.int p2)] [(.ref b1), (.ref b1)])) (fun _ k => XS.dup X1.here hx rfl (hb hby d2_3) rfl rfl k) ?_
  refine Go.via (S' := T1.setTop (mkF m 5 #[.val (.int p1), .val (.int p2)] [(.int (2 : Int32)), (.ref b1), (.ref b1)])) (fun _ k => XS.iconst X1.here hx rfl (hb hby d2_4) k) ?_
  obtain ⟨T9, h9, k9, X9, e9, E9, A9, st9⟩ := newP X1 hx hZ (hw _ (List.mem_of_getElem? (i := 14) rfl)) e1 (g := (mkF m 5 #[.val (.int p1), .val (.int p2)] [(.int (2 : Int32)), (.ref b1), (.ref b1)])) rfl (hb hby d2_5) rfl (by decide) (cap := 2) (by decide) (by decide) (by decide) (by decide)
  obtain ⟨b9, g9⟩ : ∃ z, z = h1.size := ⟨_, rfl⟩
  rw [← g9] at A9 st9
  have ne10 : b1 ≠ b9 := Nat.ne_of_lt (Nat.lt_of_lt_of_le A1.lt (Nat.le_of_eq g9.symm))
  have g11 : n0 ≤ b9 := Nat.le_trans z5 (Nat.le_of_eq g9.symm)
  have g12 : h0.size ≤ b9 := Nat.le_trans K6.1 (Nat.le_of_eq g9.symm)
  have f13 := f4.ext E9
  have f14 := A1.ext E9
  have f15 := F7.ext E9
  have f16 := F8.ext E9
  have z17 := Nat.le_trans z5 E9.1
  have K18 := K6.ext E9
  have V19 : Arv Z h9 b9 k9 .char (2 : Int32) [(.int (0 : Int32)), (.int (0 : Int32))] (.int (0 : Int32)) := (Arv.new A9 (by decide)).pad (pad_rep [] (.int (0 : Int32)) 2)
  refine Go.via (S' := T9.setTop (mkF m 7 #[.val (.int p1), .val (.int p2)] [(.ref b9), (.ref b1), (.ref b1)])) (fun _ k => st9 _ k) ?_
  refine Go.via (S' := T9.setTop (mkF m 8 #[.val (.int p1), .val (.int p2)] [(.ref b9), (.ref b9), (.ref b1), (.ref b1)])) (fun _ k => XS.dup X9.here hx rfl (hb hby d2_7) rfl rfl k) ?_
  refine Go.via (S' := T9.setTop (mkF m 9 #[.val (.int p1), .val (.int p2)] [(.int (0 : Int32)), (.ref b9), (.ref b9), (.ref b1), (.ref b1)])) (fun _ k => XS.iconst X9.here hx rfl (hb hby d2_8) k) ?_
  refine Go.via (S' := T9.setTop (mkF m 10 #[.val (.int p1), .val (.int p2)] [(.int p1), (.int (0 : Int32)), (.ref b9), (.ref b9), (.ref b1), (.ref b1)])) (fun _ k => XS.iloadN X9.here hx rfl (hb hby d2_9) rfl k) ?_
  obtain ⟨c20, Ar20, q20, S20, M20, H20, G20⟩ := id V19
  obtain ⟨T20, h20, X20, e20, W20, st20⟩ := stC X9 hx hZ e9 Ar20 (j := (0 : Int32)) (inb_of S20 ⟨by decide, by decide⟩) (g := (mkF m 10 #[.val (.int p1), .val (.int p2)] [(.int p1), (.int (0 : Int32)), (.ref b9), (.ref b9), (.ref b1), (.ref b1)])) rfl rfl (hb hby d2_10)
  have V21 : Arv Z h20 b9 k9 .char (2 : Int32) [(.int (nar .char p1)), (.int (0 : Int32))] (.int (0 : Int32)) := Arv.set Ar20 q20 S20 M20 H20 G20 (fits_nar_char _) W20 0 rfl (Nat.le_of_ble_eq_true rfl)
  have N22 := Fr.snoc X20 N0 g11
  have f23 := f13.wr W20 g11
  have f24 := f14.wr W20
  have f25 := f15.other W20 (Or.inl ne10)
  have f26 := f16.other W20 (Or.inl ne10)
  have z27 := Nat.le_trans z17 (Keep.of_wr W20).1
  have K28 := K18.wr W20 (Or.inr g12)
  refine Go.via (S' := T20.setTop (mkF m 11 #[.val (.int p1), .val (.int p2)] [(.ref b9), (.ref b1), (.ref b1)])) (fun _ k => st20 _ k) ?_
  refine Go.via (S' := T20.setTop (mkF m 12 #[.val (.int p1), .val (.int p2)] [(.ref b9), (.ref b9), (.ref b1), (.ref b1)])) (fun _ k => XS.dup X20.here hx rfl (hb hby d2_11) rfl rfl k) ?_
  refine Go.via (S' := T20.setTop (mkF m 13 #[.val (.int p1), .val (.int p2)] [(.int (1 : Int32)), (.ref b9), (.ref b9), (.ref b1), (.ref b1)])) (fun _ k => XS.iconst X20.here hx rfl (hb hby d2_12) k) ?_
  refine Go.via (S' := T20.setTop (mkF m 14 #[.val (.int p1), .val (.int p2)] [(.int p2), (.int (1 : Int32)), (.ref b9), (.ref b9), (.ref b1), (.ref b1)])) (fun _ k => XS.iloadN X20.here hx rfl (hb hby d2_13) rfl k) ?_
  obtain ⟨c29, Ar29, q29, S29, M29, H29, G29⟩ := id V21
  obtain ⟨T29, h29, X29, e29, W29, st29⟩ := stC X20 hx hZ e20 Ar29 (j := (1 : Int32)) (inb_of S29 ⟨by decide, by decide⟩) (g := (mkF m 14 #[.val (.int p1), .val (.int p2)] [(.int p2), (.int (1 : Int32)), (.ref b9), (.ref b9), (.ref b1), (.ref b1)])) rfl rfl (hb hby d2_14)
  have V30 : Arv Z h29 b9 k9 .char (2 : Int32) [(.int (nar .char p1)), (.int (nar .char p2))] (.int (0 : Int32)) := Arv.set Ar29 q29 S29 M29 H29 G29 (fits_nar_char _) W29 1 rfl (Nat.le_of_ble_eq_true rfl)
  have N31 := Fr.snoc X29 N22 g11
  have f32 := f23.wr W29 g11
  have f33 := f24.wr W29
  have f34 := f25.other W29 (Or.inl ne10)
  have f35 := f26.other W29 (Or.inl ne10)
  have z36 := Nat.le_trans z27 (Keep.of_wr W29).1
  have K37 := K28.wr W29 (Or.inr g12)
  refine Go.via (S' := T29.setTop (mkF m 15 #[.val (.int p1), .val (.int p2)] [(.ref b9), (.ref b1), (.ref b1)])) (fun _ k => st29 _ k) ?_
  have hp38 : ∀ c ∈ ([(nar .char p1), (nar .char p2)] : List Int32), ¬ c < 0 ∧ ¬ (255 : Int32) < c := by
    intro c hc
    simp only [List.mem_cons, List.not_mem_nil, or_false] at hc
    rcases hc with rfl | rfl
    · exact (by rw [own_nar hc1]; exact hc1)
    · exact (by rw [own_nar hc2]; exact hc2)
  obtain ⟨_, _, ⟨T39, L39, k39, n39⟩, -, X39, ⟨Lc39, hQ39, l39, y39, z39⟩, st39⟩ := X29.specialBack hx (y := (⟨"java/lang/String", "<init>", "([C)V"⟩ : MethodName)) rfl hown (mvT hZ (hw _ (List.mem_of_getElem? (i := 15) rfl))) (mvT hZ (hw _ (List.mem_of_getElem? (i := 16) rfl))) (mvT hZ (hw _ (List.mem_of_getElem? (i := 17) rfl))) (by decide) (StrChars.Road.backV (W := 1) hZ hws (kI := 4) (hw _ (List.mem_of_getElem? (i := 12) rfl)) (cs := ([(nar .char p1), (nar .char p2)] : List Int32)) (bs := (([(nar .char p1), (nar .char p2)] : List Int32)).map (fun c => c.toInt8.toInt32)) (n := 2) g2 z36 f33 f35 f34 V30 (O2.ext f32.2) P5 rfl rfl (by decide) (by decide) hp38 rfl (by decide) (by decide)) (g := (mkF m 15 #[.val (.int p1), .val (.int p2)] [(.ref b9), (.ref b1), (.ref b1)])) rfl (by rw [hml]; rfl) (Steps.refl _) (a := b1) (argsL := [(.ref b9)]) (rest := [(.ref b1)]) (lenOf pd_0 rfl) rfl (by show 2 * 0 + _ ≤ _; exact Nat.le_of_eq rfl) (hb hby d2_15) (fun _ _ => ⟨rfl, e29, (by decide : 2 + 1 ≤ _), (by decide : 6 + 2 ≤ _)⟩)
  dsimp only [Pt.U, Pt.locs, Pt.cells, Pt.slots] at X39 l39 y39 z39 st39 hQ39
  subst l39 y39 z39
  obtain ⟨rfl, N39q, K39, Ee39, Fc39, t39, kb39, u139, u239, u339, Fv39, Va39⟩ := hQ39
  have N40 := Fr.app N31 N39q
  have f41 := f32.keep K39 (allS g2 all0)
  have f42 := f33.keep K39
  have f43 := V30.keep K39 (ninS (Ne.symm ne10) nin0)
  have z44 := Nat.le_trans z36 K39.1
  have K45 := K37.trans K39 (allS (Or.inr g3) all0)
  refine Go.via (S' := T39.setTop (mkF m 18 #[.val (.int p1), .val (.int p2)] [(.ref b1)])) (fun _ k => st39.trans k) ?_
  have ne46 : b9 ≠ t39 := Nat.ne_of_lt (Nat.lt_of_lt_of_le V30.lt u239)
  have g47 : h0.size ≤ t39 := Nat.le_trans K37.1 u239
  exact Go.retA X39 hx (BodyLoose.notSynchronized Bd) Bd.returns rfl rfl rfl (hb hby d2_18) ⟨_, t39, rfl, N40, K45, g3, g47, own_two_SA (own_nar hc1) (own_nar hc2) f42 Fv39 Fc39 Va39 hp38⟩ (by decide) (by decide)
theorem d9_0 : decode prog_67_method_1_code 0 = .ok (.aload_n 0, 1) := by decide +kernel
theorem d9_1 : decode prog_67_method_1_code 1 = .ok (.invokespecial 1, 3) := by decide +kernel
theorem d9_4 : decode prog_67_method_1_code 4 = .ok (.aload_n 0, 1) := by decide +kernel
theorem d9_5 : decode prog_67_method_1_code 5 = .ok (.aload_n 1, 1) := by decide +kernel
theorem d9_6 : decode prog_67_method_1_code 6 = .ok (.putfield 7, 3) := by decide +kernel
theorem d9_9 : decode prog_67_method_1_code 9 = .ok (.aload_n 0, 1) := by decide +kernel
theorem d9_10 : decode prog_67_method_1_code 10 = .ok (.aload_n 2, 1) := by decide +kernel
theorem d9_11 : decode prog_67_method_1_code 11 = .ok (.putfield 13, 3) := by decide +kernel
theorem d9_14 : decode prog_67_method_1_code 14 = .ok (.aload_n 0, 1) := by decide +kernel
theorem d9_15 : decode prog_67_method_1_code 15 = .ok (.aload_n 3, 1) := by decide +kernel
theorem d9_16 : decode prog_67_method_1_code 16 = .ok (.putfield 16, 3) := by decide +kernel
theorem d9_19 : decode prog_67_method_1_code 19 = .ok (.aload_n 0, 1) := by decide +kernel
theorem d9_20 : decode prog_67_method_1_code 20 = .ok (.iload 4, 2) := by decide +kernel
theorem d9_22 : decode prog_67_method_1_code 22 = .ok (.putfield 19, 3) := by decide +kernel
theorem d9_25 : decode prog_67_method_1_code 25 = .ok (.aload_n 0, 1) := by decide +kernel
theorem d9_26 : decode prog_67_method_1_code 26 = .ok (.iload 5, 2) := by decide +kernel
theorem d9_28 : decode prog_67_method_1_code 28 = .ok (.putfield 23, 3) := by decide +kernel
theorem d9_31 : decode prog_67_method_1_code 31 = .ok (.return_, 1) := by decide +kernel
theorem pn_1 : plainName "com/example/amendatory/amendatory/Provision" = true := by first | (simp [plainName, overriddenIn]; done) | decide +kernel
theorem ef_9 (m : MethodId) (x0 : Addr) (x1 : Addr) (x2 : Addr) (x3 : Addr) (x4 : Int32) (x5 : Int32) : entryFrame m #[(.ref x0), (.ref x1), (.ref x2), (.ref x3), (.int x4), (.int x5)] 6 = mkF m 0 #[.val (.ref x0), .val (.ref x1), .val (.ref x2), .val (.ref x3), .val (.int x4), .val (.int x5)] [] := by first | (simp [entryFrame, mkF, argsToLocals, Value.category]; done) | rfl
def Q9 (Z : State) (a1 : Addr) (a2 : Addr) (a3 : Addr) (a4 : Addr) (p5 : Int32) (p6 : Int32) (h0 : Heap) (n0 : Nat) (v : Option Value) (h : Heap) (L : List Loc) : Prop := v = none ∧ Fr n0 L ∧ Keep h0 h [a1] ∧ Fld Z h a1 "com/example/amendatory/amendatory/Provision" "number" "Ljava/lang/String;" (.ref a2) ∧ Fld Z h a1 "com/example/amendatory/amendatory/Provision" "designation" "Ljava/lang/String;" (.ref a3) ∧ Fld Z h a1 "com/example/amendatory/amendatory/Provision" "opening" "Ljava/lang/String;" (.ref a4) ∧ Fld Z h a1 "com/example/amendatory/amendatory/Provision" "firstLine" "I" (.int p5) ∧ Fld Z h a1 "com/example/amendatory/amendatory/Provision" "lastLine" "I" (.int p6)
set_option maxRecDepth 65536 in
set_option maxHeartbeats 40000000 in
theorem rm9 (l : Launch) (Z : State) (a0 : Array Value) (hw : ∀ d ∈ tables_1, d.before a0 Z = true) (ws : List Jvm.Cond) (a1 : Addr) (a2 : Addr) (a3 : Addr) (a4 : Addr) (p5 : Int32) (p6 : Int32) (h0 : Heap) (n0 : Nat) (Z0 : n0 ≤ h0.size) (E1 : Exa Z h0 a1 "com/example/amendatory/amendatory/Provision") (F_number : Fld Z h0 a1 "com/example/amendatory/amendatory/Provision" "number" "Ljava/lang/String;" .null) (F_designation : Fld Z h0 a1 "com/example/amendatory/amendatory/Provision" "designation" "Ljava/lang/String;" .null) (F_opening : Fld Z h0 a1 "com/example/amendatory/amendatory/Provision" "opening" "Ljava/lang/String;" .null) (F_firstLine : Fld Z h0 a1 "com/example/amendatory/amendatory/Provision" "firstLine" "I" (.int (0 : Int32))) (F_lastLine : Fld Z h0 a1 "com/example/amendatory/amendatory/Provision" "lastLine" "I" (.int (0 : Int32))) (g1 : n0 ≤ a1) :
    MetFree l (⟨"com/example/amendatory/amendatory/Provision", "<init>", "(Ljava/lang/String;Ljava/lang/String;Ljava/lang/String;II)V"⟩ : MethodName) (head1 (Jvm.Cond.code (⟨"com/example/amendatory/amendatory/Provision", "<init>", "(Ljava/lang/String;Ljava/lang/String;Ljava/lang/String;II)V"⟩ : MethodName) prog_67_method_1_code 6 none :: ws) ({ frames := 1, cells := 0, slots := 0, locals := 12 } : Room)) (fun a U => a = #[(.ref a1), (.ref a2), (.ref a3), (.ref a4), (.int p5), (.int p6)] ∧ Z.Warmed39 U.vm ∧ U.heap = h0) (fun _ _ _ _ _ => True) (fun _ U o U' => ∃ v L, o = .returned v ∧ Q9 Z a1 a2 a3 a4 p5 p6 h0 n0 v U'.heap L ∧ FrameEnd U o U' L ({ frames := 1, cells := 0, slots := 0, locals := 12 } : Room).cells ({ frames := 1, cells := 0, slots := 0, locals := 12 } : Room).slots) := by
  refine MetFree.of_bodySF (plainFor_of_name pn_1) hisR ?_
  intro p e s m args below meth c s₁ Bd hml0 hP hK
  obtain ⟨rfl, hZ, hh⟩ := hP
  have hx := Bd.exec
  have hby := Bd.bytes
  have hml : c.maxLocals = 6 := hml0
  have hown : s.vm.findClass "com/example/amendatory/amendatory/Provision" = some m.cls := findClass_of_methodNamed Bd.named
  have hnm := (name_of_methodNamed Bd.named Bd.method).1
  have X0 : Stand p l e ({ frames := 1, cells := 0, slots := 0, locals := 12 } : Room) s m #[(.ref a1), (.ref a2), (.ref a3), (.ref a4), (.int p5), (.int p6)] below meth c s₁ [] 0 0 := Stand.of_body Bd
  have e0 : s₁.heap = h0 := by rw [← hh, Bd.state]; rfl
  have N0 := Fr.nil n0
  show Go p e below s (Q9 Z a1 a2 a3 a4 p5 p6 h0 n0) ({ frames := 1, cells := 0, slots := 0, locals := 12 } : Room).cells ({ frames := 1, cells := 0, slots := 0, locals := 12 } : Room).slots _
  refine Go.via (S' := s₁.setTop (mkF m 0 #[.val (.ref a1), .val (.ref a2), .val (.ref a3), .val (.ref a4), .val (.int p5), .val (.int p6)] [])) (fun t k => castTop (ef_9 m a1 a2 a3 a4 p5 p6) k) ?_
  refine Go.via (S' := s₁.setTop (mkF m 1 #[.val (.ref a1), .val (.ref a2), .val (.ref a3), .val (.ref a4), .val (.int p5), .val (.int p6)] [(.ref a1)])) (fun _ k => XS.aloadN X0.here hx rfl (hb hby d9_0) rfl rfl k) ?_
  obtain ⟨T1, X1, e1, st1⟩ := initO X0 hx hZ hown (hw _ (List.mem_of_getElem? (i := 44) rfl)) (hw _ (List.mem_of_getElem? (i := 23) rfl)) (hw _ (List.mem_of_getElem? (i := 24) rfl)) e0 (g := (mkF m 1 #[.val (.ref a1), .val (.ref a2), .val (.ref a3), .val (.ref a4), .val (.int p5), .val (.int p6)] [(.ref a1)])) rfl (by rw [hml]; rfl) rfl (hb hby d9_1) (by decide) (W := 0) (by show 2 * 0 + _ ≤ _; exact Nat.le_of_eq rfl) (by decide)
  refine Go.via (S' := T1.setTop (mkF m 4 #[.val (.ref a1), .val (.ref a2), .val (.ref a3), .val (.ref a4), .val (.int p5), .val (.int p6)] [])) (fun _ k => st1 _ k) ?_
  refine Go.via (S' := T1.setTop (mkF m 5 #[.val (.ref a1), .val (.ref a2), .val (.ref a3), .val (.ref a4), .val (.int p5), .val (.int p6)] [(.ref a1)])) (fun _ k => XS.aloadN X1.here hx rfl (hb hby d9_4) rfl rfl k) ?_
  refine Go.via (S' := T1.setTop (mkF m 6 #[.val (.ref a1), .val (.ref a2), .val (.ref a3), .val (.ref a4), .val (.int p5), .val (.int p6)] [(.ref a2), (.ref a1)])) (fun _ k => XS.aloadN X1.here hx rfl (hb hby d9_5) rfl rfl k) ?_
  obtain ⟨T2, h2, X2, e2, W2, st2⟩ := putF X1 hx hZ hown (host := "") (Or.inl (hw _ (List.mem_of_getElem? (i := 45) rfl))) Via.refl e1 F_number E1 (Or.inr ⟨(hw _ (List.mem_of_getElem? (i := 46) rfl)), rfl, hnm⟩) (hw _ (List.mem_of_getElem? (i := 6) rfl)) (ty := (.object "java/lang/String")) (by decide) rfl rfl (g := (mkF m 6 #[.val (.ref a1), .val (.ref a2), .val (.ref a3), .val (.ref a4), .val (.int p5), .val (.int p6)] [(.ref a2), (.ref a1)])) rfl rfl (hb hby d9_6)
  have N3 := Fr.snoc X2 N0 g1
  have f4 := E1.wr W2
  have f5 := F_number.same W2
  have f6 := F_designation.other W2 (Or.inr (slot_ne (Or.inr (hw _ (List.mem_of_getElem? (i := 48) rfl))) (Or.inr (hw _ (List.mem_of_getElem? (i := 46) rfl))) (by decide) (t := (.object "java/lang/String")) (t' := (.object "java/lang/String")) (by decide) (by decide)))
  have f7 := F_opening.other W2 (Or.inr (slot_ne (Or.inr (hw _ (List.mem_of_getElem? (i := 50) rfl))) (Or.inr (hw _ (List.mem_of_getElem? (i := 46) rfl))) (by decide) (t := (.object "java/lang/String")) (t' := (.object "java/lang/String")) (by decide) (by decide)))
  have f8 := F_firstLine.other W2 (Or.inr (slot_ne (Or.inr (hw _ (List.mem_of_getElem? (i := 52) rfl))) (Or.inr (hw _ (List.mem_of_getElem? (i := 46) rfl))) (by decide) (t := .int) (t' := (.object "java/lang/String")) (by decide) (by decide)))
  have f9 := F_lastLine.other W2 (Or.inr (slot_ne (Or.inr (hw _ (List.mem_of_getElem? (i := 54) rfl))) (Or.inr (hw _ (List.mem_of_getElem? (i := 46) rfl))) (by decide) (t := .int) (t' := (.object "java/lang/String")) (by decide) (by decide)))
  have z10 := Nat.le_trans Z0 (Keep.of_wr W2).1
  have K11 := (Keep.refl h0 [a1]).wr W2 (Or.inl (List.mem_of_getElem? (i := 0) rfl))
  refine Go.via (S' := T2.setTop (mkF m 9 #[.val (.ref a1), .val (.ref a2), .val (.ref a3), .val (.ref a4), .val (.int p5), .val (.int p6)] [])) (fun _ k => st2 _ k) ?_
  refine Go.via (S' := T2.setTop (mkF m 10 #[.val (.ref a1), .val (.ref a2), .val (.ref a3), .val (.ref a4), .val (.int p5), .val (.int p6)] [(.ref a1)])) (fun _ k => XS.aloadN X2.here hx rfl (hb hby d9_9) rfl rfl k) ?_
  refine Go.via (S' := T2.setTop (mkF m 11 #[.val (.ref a1), .val (.ref a2), .val (.ref a3), .val (.ref a4), .val (.int p5), .val (.int p6)] [(.ref a3), (.ref a1)])) (fun _ k => XS.aloadN X2.here hx rfl (hb hby d9_10) rfl rfl k) ?_
  obtain ⟨T12, h12, X12, e12, W12, st12⟩ := putF X2 hx hZ hown (host := "") (Or.inl (hw _ (List.mem_of_getElem? (i := 47) rfl))) Via.refl e2 f6 f4 (Or.inr ⟨(hw _ (List.mem_of_getElem? (i := 48) rfl)), rfl, hnm⟩) (hw _ (List.mem_of_getElem? (i := 6) rfl)) (ty := (.object "java/lang/String")) (by decide) rfl rfl (g := (mkF m 11 #[.val (.ref a1), .val (.ref a2), .val (.ref a3), .val (.ref a4), .val (.int p5), .val (.int p6)] [(.ref a3), (.ref a1)])) rfl rfl (hb hby d9_11)
  have N13 := Fr.snoc X12 N3 g1
  have f14 := f4.wr W12
  have f15 := f5.other W12 (Or.inr (slot_ne (Or.inr (hw _ (List.mem_of_getElem? (i := 46) rfl))) (Or.inr (hw _ (List.mem_of_getElem? (i := 48) rfl))) (by decide) (t := (.object "java/lang/String")) (t' := (.object "java/lang/String")) (by decide) (by decide)))
  have f16 := f6.same W12
  have f17 := f7.other W12 (Or.inr (slot_ne (Or.inr (hw _ (List.mem_of_getElem? (i := 50) rfl))) (Or.inr (hw _ (List.mem_of_getElem? (i := 48) rfl))) (by decide) (t := (.object "java/lang/String")) (t' := (.object "java/lang/String")) (by decide) (by decide)))
  have f18 := f8.other W12 (Or.inr (slot_ne (Or.inr (hw _ (List.mem_of_getElem? (i := 52) rfl))) (Or.inr (hw _ (List.mem_of_getElem? (i := 48) rfl))) (by decide) (t := .int) (t' := (.object "java/lang/String")) (by decide) (by decide)))
  have f19 := f9.other W12 (Or.inr (slot_ne (Or.inr (hw _ (List.mem_of_getElem? (i := 54) rfl))) (Or.inr (hw _ (List.mem_of_getElem? (i := 48) rfl))) (by decide) (t := .int) (t' := (.object "java/lang/String")) (by decide) (by decide)))
  have z20 := Nat.le_trans z10 (Keep.of_wr W12).1
  have K21 := K11.wr W12 (Or.inl (List.mem_of_getElem? (i := 0) rfl))
  refine Go.via (S' := T12.setTop (mkF m 14 #[.val (.ref a1), .val (.ref a2), .val (.ref a3), .val (.ref a4), .val (.int p5), .val (.int p6)] [])) (fun _ k => st12 _ k) ?_
  refine Go.via (S' := T12.setTop (mkF m 15 #[.val (.ref a1), .val (.ref a2), .val (.ref a3), .val (.ref a4), .val (.int p5), .val (.int p6)] [(.ref a1)])) (fun _ k => XS.aloadN X12.here hx rfl (hb hby d9_14) rfl rfl k) ?_
  refine Go.via (S' := T12.setTop (mkF m 16 #[.val (.ref a1), .val (.ref a2), .val (.ref a3), .val (.ref a4), .val (.int p5), .val (.int p6)] [(.ref a4), (.ref a1)])) (fun _ k => XS.aloadN X12.here hx rfl (hb hby d9_15) rfl rfl k) ?_
  obtain ⟨T22, h22, X22, e22, W22, st22⟩ := putF X12 hx hZ hown (host := "") (Or.inl (hw _ (List.mem_of_getElem? (i := 49) rfl))) Via.refl e12 f17 f14 (Or.inr ⟨(hw _ (List.mem_of_getElem? (i := 50) rfl)), rfl, hnm⟩) (hw _ (List.mem_of_getElem? (i := 6) rfl)) (ty := (.object "java/lang/String")) (by decide) rfl rfl (g := (mkF m 16 #[.val (.ref a1), .val (.ref a2), .val (.ref a3), .val (.ref a4), .val (.int p5), .val (.int p6)] [(.ref a4), (.ref a1)])) rfl rfl (hb hby d9_16)
  have N23 := Fr.snoc X22 N13 g1
  have f24 := f14.wr W22
  have f25 := f15.other W22 (Or.inr (slot_ne (Or.inr (hw _ (List.mem_of_getElem? (i := 46) rfl))) (Or.inr (hw _ (List.mem_of_getElem? (i := 50) rfl))) (by decide) (t := (.object "java/lang/String")) (t' := (.object "java/lang/String")) (by decide) (by decide)))
  have f26 := f16.other W22 (Or.inr (slot_ne (Or.inr (hw _ (List.mem_of_getElem? (i := 48) rfl))) (Or.inr (hw _ (List.mem_of_getElem? (i := 50) rfl))) (by decide) (t := (.object "java/lang/String")) (t' := (.object "java/lang/String")) (by decide) (by decide)))
  have f27 := f17.same W22
  have f28 := f18.other W22 (Or.inr (slot_ne (Or.inr (hw _ (List.mem_of_getElem? (i := 52) rfl))) (Or.inr (hw _ (List.mem_of_getElem? (i := 50) rfl))) (by decide) (t := .int) (t' := (.object "java/lang/String")) (by decide) (by decide)))
  have f29 := f19.other W22 (Or.inr (slot_ne (Or.inr (hw _ (List.mem_of_getElem? (i := 54) rfl))) (Or.inr (hw _ (List.mem_of_getElem? (i := 50) rfl))) (by decide) (t := .int) (t' := (.object "java/lang/String")) (by decide) (by decide)))
  have z30 := Nat.le_trans z20 (Keep.of_wr W22).1
  have K31 := K21.wr W22 (Or.inl (List.mem_of_getElem? (i := 0) rfl))
  refine Go.via (S' := T22.setTop (mkF m 19 #[.val (.ref a1), .val (.ref a2), .val (.ref a3), .val (.ref a4), .val (.int p5), .val (.int p6)] [])) (fun _ k => st22 _ k) ?_
  refine Go.via (S' := T22.setTop (mkF m 20 #[.val (.ref a1), .val (.ref a2), .val (.ref a3), .val (.ref a4), .val (.int p5), .val (.int p6)] [(.ref a1)])) (fun _ k => XS.aloadN X22.here hx rfl (hb hby d9_19) rfl rfl k) ?_
  refine Go.via (S' := T22.setTop (mkF m 22 #[.val (.ref a1), .val (.ref a2), .val (.ref a3), .val (.ref a4), .val (.int p5), .val (.int p6)] [(.int p5), (.ref a1)])) (fun _ k => XS.iload X22.here hx rfl (hb hby d9_20) rfl k) ?_
  obtain ⟨T32, h32, X32, e32, W32, st32⟩ := putF X22 hx hZ hown (host := "") (Or.inl (hw _ (List.mem_of_getElem? (i := 51) rfl))) Via.refl e22 f28 f24 (Or.inr ⟨(hw _ (List.mem_of_getElem? (i := 52) rfl)), rfl, hnm⟩) (hw _ (List.mem_of_getElem? (i := 6) rfl)) (ty := .int) (by decide) rfl rfl (g := (mkF m 22 #[.val (.ref a1), .val (.ref a2), .val (.ref a3), .val (.ref a4), .val (.int p5), .val (.int p6)] [(.int p5), (.ref a1)])) rfl rfl (hb hby d9_22)
  have N33 := Fr.snoc X32 N23 g1
  have f34 := f24.wr W32
  have f35 := f25.other W32 (Or.inr (slot_ne (Or.inr (hw _ (List.mem_of_getElem? (i := 46) rfl))) (Or.inr (hw _ (List.mem_of_getElem? (i := 52) rfl))) (by decide) (t := (.object "java/lang/String")) (t' := .int) (by decide) (by decide)))
  have f36 := f26.other W32 (Or.inr (slot_ne (Or.inr (hw _ (List.mem_of_getElem? (i := 48) rfl))) (Or.inr (hw _ (List.mem_of_getElem? (i := 52) rfl))) (by decide) (t := (.object "java/lang/String")) (t' := .int) (by decide) (by decide)))
  have f37 := f27.other W32 (Or.inr (slot_ne (Or.inr (hw _ (List.mem_of_getElem? (i := 50) rfl))) (Or.inr (hw _ (List.mem_of_getElem? (i := 52) rfl))) (by decide) (t := (.object "java/lang/String")) (t' := .int) (by decide) (by decide)))
  have f38 := f28.same W32
  have f39 := f29.other W32 (Or.inr (slot_ne (Or.inr (hw _ (List.mem_of_getElem? (i := 54) rfl))) (Or.inr (hw _ (List.mem_of_getElem? (i := 52) rfl))) (by decide) (t := .int) (t' := .int) (by decide) (by decide)))
  have z40 := Nat.le_trans z30 (Keep.of_wr W32).1
  have K41 := K31.wr W32 (Or.inl (List.mem_of_getElem? (i := 0) rfl))
  refine Go.via (S' := T32.setTop (mkF m 25 #[.val (.ref a1), .val (.ref a2), .val (.ref a3), .val (.ref a4), .val (.int p5), .val (.int p6)] [])) (fun _ k => st32 _ k) ?_
  refine Go.via (S' := T32.setTop (mkF m 26 #[.val (.ref a1), .val (.ref a2), .val (.ref a3), .val (.ref a4), .val (.int p5), .val (.int p6)] [(.ref a1)])) (fun _ k => XS.aloadN X32.here hx rfl (hb hby d9_25) rfl rfl k) ?_
  refine Go.via (S' := T32.setTop (mkF m 28 #[.val (.ref a1), .val (.ref a2), .val (.ref a3), .val (.ref a4), .val (.int p5), .val (.int p6)] [(.int p6), (.ref a1)])) (fun _ k => XS.iload X32.here hx rfl (hb hby d9_26) rfl k) ?_
  obtain ⟨T42, h42, X42, e42, W42, st42⟩ := putF X32 hx hZ hown (host := "") (Or.inl (hw _ (List.mem_of_getElem? (i := 53) rfl))) Via.refl e32 f39 f34 (Or.inr ⟨(hw _ (List.mem_of_getElem? (i := 54) rfl)), rfl, hnm⟩) (hw _ (List.mem_of_getElem? (i := 6) rfl)) (ty := .int) (by decide) rfl rfl (g := (mkF m 28 #[.val (.ref a1), .val (.ref a2), .val (.ref a3), .val (.ref a4), .val (.int p5), .val (.int p6)] [(.int p6), (.ref a1)])) rfl rfl (hb hby d9_28)
  have N43 := Fr.snoc X42 N33 g1
  have f44 := f34.wr W42
  have f45 := f35.other W42 (Or.inr (slot_ne (Or.inr (hw _ (List.mem_of_getElem? (i := 46) rfl))) (Or.inr (hw _ (List.mem_of_getElem? (i := 54) rfl))) (by decide) (t := (.object "java/lang/String")) (t' := .int) (by decide) (by decide)))
  have f46 := f36.other W42 (Or.inr (slot_ne (Or.inr (hw _ (List.mem_of_getElem? (i := 48) rfl))) (Or.inr (hw _ (List.mem_of_getElem? (i := 54) rfl))) (by decide) (t := (.object "java/lang/String")) (t' := .int) (by decide) (by decide)))
  have f47 := f37.other W42 (Or.inr (slot_ne (Or.inr (hw _ (List.mem_of_getElem? (i := 50) rfl))) (Or.inr (hw _ (List.mem_of_getElem? (i := 54) rfl))) (by decide) (t := (.object "java/lang/String")) (t' := .int) (by decide) (by decide)))
  have f48 := f38.other W42 (Or.inr (slot_ne (Or.inr (hw _ (List.mem_of_getElem? (i := 52) rfl))) (Or.inr (hw _ (List.mem_of_getElem? (i := 54) rfl))) (by decide) (t := .int) (t' := .int) (by decide) (by decide)))
  have f49 := f39.same W42
  have z50 := Nat.le_trans z40 (Keep.of_wr W42).1
  have K51 := K41.wr W42 (Or.inl (List.mem_of_getElem? (i := 0) rfl))
  refine Go.via (S' := T42.setTop (mkF m 31 #[.val (.ref a1), .val (.ref a2), .val (.ref a3), .val (.ref a4), .val (.int p5), .val (.int p6)] [])) (fun _ k => st42 _ k) ?_
  exact Go.retV X42 hx (BodyLoose.notSynchronized Bd) Bd.returns (hb hby d9_31) (by rw [e42]; exact ⟨rfl, N43, K51, f45, f46, f47, f48, f49⟩) (by decide) (by decide)
theorem d13_0 : decode prog_67_method_2_code 0 = .ok (.aload_n 0, 1) := by decide +kernel
theorem d13_1 : decode prog_67_method_2_code 1 = .ok (.getfield 7, 3) := by decide +kernel
theorem d13_4 : decode prog_67_method_2_code 4 = .ok (.areturn, 1) := by decide +kernel
theorem ef_13 (m : MethodId) (x0 : Addr) : entryFrame m #[(.ref x0)] 1 = mkF m 0 #[.val (.ref x0)] [] := by first | (simp [entryFrame, mkF, argsToLocals, Value.category]; done) | rfl
def Q13 (Z : State) (a1 : Addr) (r : Addr) (h0 : Heap) (n0 : Nat) (v : Option Value) (h : Heap) (L : List Loc) : Prop := v = some (.ref r) ∧ Fr n0 L ∧ h = h0
set_option maxRecDepth 65536 in
set_option maxHeartbeats 40000000 in
theorem rm13 (l : Launch) (Z : State) (a0 : Array Value) (hw : ∀ d ∈ tables_1, d.before a0 Z = true) (ws : List Jvm.Cond) (a1 : Addr) (r : Addr) (h0 : Heap) (n0 : Nat) (Z0 : n0 ≤ h0.size) (F1 : Fld Z h0 a1 "com/example/amendatory/amendatory/Provision" "number" "Ljava/lang/String;" (.ref r)) :
    MetFree l (⟨"com/example/amendatory/amendatory/Provision", "number", "()Ljava/lang/String;"⟩ : MethodName) (head1 (Jvm.Cond.code (⟨"com/example/amendatory/amendatory/Provision", "number", "()Ljava/lang/String;"⟩ : MethodName) prog_67_method_2_code 1 (some (.object "java/lang/String")) :: ws) ({ frames := 0, cells := 0, slots := 0, locals := 0 } : Room)) (fun a U => a = #[(.ref a1)] ∧ Z.Warmed39 U.vm ∧ U.heap = h0) (fun _ _ _ _ _ => True) (fun _ U o U' => ∃ v L, o = .returned v ∧ Q13 Z a1 r h0 n0 v U'.heap L ∧ FrameEnd U o U' L ({ frames := 0, cells := 0, slots := 0, locals := 0 } : Room).cells ({ frames := 0, cells := 0, slots := 0, locals := 0 } : Room).slots) := by
  refine MetFree.of_bodySF (plainFor_of_name pn_1) hisR ?_
  intro p e s m args below meth c s₁ Bd hml0 hP hK
  obtain ⟨rfl, hZ, hh⟩ := hP
  have hx := Bd.exec
  have hby := Bd.bytes
  have hml : c.maxLocals = 1 := hml0
  have hown : s.vm.findClass "com/example/amendatory/amendatory/Provision" = some m.cls := findClass_of_methodNamed Bd.named
  have hnm := (name_of_methodNamed Bd.named Bd.method).1
  have X0 : Stand p l e ({ frames := 0, cells := 0, slots := 0, locals := 0 } : Room) s m #[(.ref a1)] below meth c s₁ [] 0 0 := Stand.of_body Bd
  have e0 : s₁.heap = h0 := by rw [← hh, Bd.state]; rfl
  have N0 := Fr.nil n0
  show Go p e below s (Q13 Z a1 r h0 n0) ({ frames := 0, cells := 0, slots := 0, locals := 0 } : Room).cells ({ frames := 0, cells := 0, slots := 0, locals := 0 } : Room).slots _
  refine Go.via (S' := s₁.setTop (mkF m 0 #[.val (.ref a1)] [])) (fun t k => castTop (ef_13 m a1) k) ?_
  refine Go.via (S' := s₁.setTop (mkF m 1 #[.val (.ref a1)] [(.ref a1)])) (fun _ k => XS.aloadN X0.here hx rfl (hb hby d13_0) rfl rfl k) ?_
  obtain ⟨T1, X1, e1, st1⟩ := getF X0 hx hZ hown (host := "") (Or.inl (hw _ (List.mem_of_getElem? (i := 45) rfl))) Via.refl e0 F1 (g := (mkF m 1 #[.val (.ref a1)] [(.ref a1)])) rfl rfl (hb hby d13_1)
  refine Go.via (S' := T1.setTop (mkF m 4 #[.val (.ref a1)] [(.ref r)])) (fun _ k => st1 _ k) ?_
  exact Go.retA X1 hx (BodyLoose.notSynchronized Bd) Bd.returns rfl rfl rfl (hb hby d13_4) (by rw [e1]; exact ⟨rfl, N0, rfl⟩) (by decide) (by decide)
theorem d10_0 : decode prog_67_method_13_code 0 = .ok (.aload_n 1, 1) := by decide +kernel
theorem d10_1 : decode prog_67_method_13_code 1 = .ok (.instanceof 8, 3) := by decide +kernel
theorem d10_4 : decode prog_67_method_13_code 4 = .ok (.ifCond .eq 76, 3) := by decide +kernel
theorem d10_7 : decode prog_67_method_13_code 7 = .ok (.aload_n 1, 1) := by decide +kernel
theorem d10_8 : decode prog_67_method_13_code 8 = .ok (.checkcast 8, 3) := by decide +kernel
theorem d10_11 : decode prog_67_method_13_code 11 = .ok (.astore_n 2, 1) := by decide +kernel
theorem d10_12 : decode prog_67_method_13_code 12 = .ok (.aload_n 0, 1) := by decide +kernel
theorem d10_13 : decode prog_67_method_13_code 13 = .ok (.getfield 7, 3) := by decide +kernel
theorem d10_16 : decode prog_67_method_13_code 16 = .ok (.aload_n 2, 1) := by decide +kernel
theorem d10_17 : decode prog_67_method_13_code 17 = .ok (.getfield 7, 3) := by decide +kernel
theorem d10_20 : decode prog_67_method_13_code 20 = .ok (.invokevirtual 63, 3) := by decide +kernel
theorem pd_1 : parseMethodDescriptor "(Ljava/lang/Object;)Z" = some ⟨[(.object "java/lang/Object")], some .boolean⟩ := by decide +kernel
theorem d10_23 : decode prog_67_method_13_code 23 = .ok (.ifCond .eq 57, 3) := by decide +kernel
theorem d10_26 : decode prog_67_method_13_code 26 = .ok (.aload_n 0, 1) := by decide +kernel
theorem d10_27 : decode prog_67_method_13_code 27 = .ok (.getfield 13, 3) := by decide +kernel
theorem d10_30 : decode prog_67_method_13_code 30 = .ok (.aload_n 2, 1) := by decide +kernel
theorem d10_31 : decode prog_67_method_13_code 31 = .ok (.getfield 13, 3) := by decide +kernel
theorem d10_34 : decode prog_67_method_13_code 34 = .ok (.invokevirtual 63, 3) := by decide +kernel
theorem d10_37 : decode prog_67_method_13_code 37 = .ok (.ifCond .eq 43, 3) := by decide +kernel
theorem d10_40 : decode prog_67_method_13_code 40 = .ok (.aload_n 0, 1) := by decide +kernel
theorem d10_41 : decode prog_67_method_13_code 41 = .ok (.getfield 16, 3) := by decide +kernel
theorem d10_44 : decode prog_67_method_13_code 44 = .ok (.aload_n 2, 1) := by decide +kernel
theorem d10_45 : decode prog_67_method_13_code 45 = .ok (.getfield 16, 3) := by decide +kernel
theorem d10_48 : decode prog_67_method_13_code 48 = .ok (.invokevirtual 63, 3) := by decide +kernel
theorem d10_51 : decode prog_67_method_13_code 51 = .ok (.ifCond .eq 29, 3) := by decide +kernel
theorem d10_54 : decode prog_67_method_13_code 54 = .ok (.aload_n 0, 1) := by decide +kernel
theorem d10_55 : decode prog_67_method_13_code 55 = .ok (.getfield 19, 3) := by decide +kernel
theorem d10_58 : decode prog_67_method_13_code 58 = .ok (.aload_n 2, 1) := by decide +kernel
theorem d10_59 : decode prog_67_method_13_code 59 = .ok (.getfield 19, 3) := by decide +kernel
theorem d10_62 : decode prog_67_method_13_code 62 = .ok (.if_icmp .ne 18, 3) := by decide +kernel
theorem d10_65 : decode prog_67_method_13_code 65 = .ok (.aload_n 0, 1) := by decide +kernel
theorem d10_66 : decode prog_67_method_13_code 66 = .ok (.getfield 23, 3) := by decide +kernel
theorem d10_69 : decode prog_67_method_13_code 69 = .ok (.aload_n 2, 1) := by decide +kernel
theorem d10_70 : decode prog_67_method_13_code 70 = .ok (.getfield 23, 3) := by decide +kernel
theorem d10_73 : decode prog_67_method_13_code 73 = .ok (.if_icmp .ne 7, 3) := by decide +kernel
theorem d10_76 : decode prog_67_method_13_code 76 = .ok (.iconst 1, 1) := by decide +kernel
theorem d10_77 : decode prog_67_method_13_code 77 = .ok (.goto 4, 3) := by decide +kernel
theorem d10_81 : decode prog_67_method_13_code 81 = .ok (.ireturn, 1) := by decide +kernel
theorem d10_80 : decode prog_67_method_13_code 80 = .ok (.iconst 0, 1) := by decide +kernel
theorem ef_10 (m : MethodId) (x0 : Addr) (x1 : Addr) : entryFrame m #[(.ref x0), (.ref x1)] 3 = mkF m 0 #[.val (.ref x0), .val (.ref x1), .unset] [] := by first | (simp [entryFrame, mkF, argsToLocals, Value.category]; done) | rfl
def Q10 (Z : State) (a1 : Addr) (a2 : Addr) (G1 : Int32) (i1 : Int32) (l1 : Int32) (i2 : Int32) (l2 : Int32) (x1 : Addr) (tx1 : Addr) (cx1 : List Int32) (x2 : Addr) (tx2 : Addr) (cx2 : List Int32) (x3 : Addr) (tx3 : Addr) (cx3 : List Int32) (y1 : Addr) (ty1 : Addr) (cy1 : List Int32) (y2 : Addr) (ty2 : Addr) (cy2 : List Int32) (y3 : Addr) (ty3 : Addr) (cy3 : List Int32) (h0 : Heap) (n0 : Nat) (v : Option Value) (h : Heap) (L : List Loc) : Prop := ∃ r : Int32, v = some (.int r) ∧ Fr n0 L ∧ h = h0 ∧ ((r = 1 ∧ (cx1 = cy1 ∧ cx2 = cy2 ∧ cx3 = cy3 ∧ i1 = i2 ∧ l1 = l2)) ∨ (r = 0 ∧ ¬ (cx1 = cy1 ∧ cx2 = cy2 ∧ cx3 = cy3 ∧ i1 = i2 ∧ l1 = l2)))
set_option maxRecDepth 65536 in
set_option maxHeartbeats 40000000 in
theorem rm10 (l : Launch) (Z : State) (a0 : Array Value) (hw : ∀ d ∈ tables_1, d.before a0 Z = true) (ws : List Jvm.Cond) (a1 : Addr) (a2 : Addr) (G1 : Int32) (i1 : Int32) (l1 : Int32) (i2 : Int32) (l2 : Int32) (x1 : Addr) (tx1 : Addr) (cx1 : List Int32) (x2 : Addr) (tx2 : Addr) (cx2 : List Int32) (x3 : Addr) (tx3 : Addr) (cx3 : List Int32) (y1 : Addr) (ty1 : Addr) (cy1 : List Int32) (y2 : Addr) (ty2 : Addr) (cy2 : List Int32) (y3 : Addr) (ty3 : Addr) (cy3 : List Int32) (h0 : Heap) (n0 : Nat) (Z0 : n0 ≤ h0.size) (X00 : Old Z n0 h0) (O2 : Sta Z Z.heap "java/lang/String" "COMPACT_STRINGS" "Z" (.int G1)) (P5 : ¬ G1 = (0 : Int32)) (S_x1 : own_SA Z h0 x1 tx1 cx1) (S_x2 : own_SA Z h0 x2 tx2 cx2) (S_x3 : own_SA Z h0 x3 tx3 cx3) (S_y1 : own_SA Z h0 y1 ty1 cy1) (S_y2 : own_SA Z h0 y2 ty2 cy2) (S_y3 : own_SA Z h0 y3 ty3 cy3) (F1_number : Fld Z h0 a1 "com/example/amendatory/amendatory/Provision" "number" "Ljava/lang/String;" (.ref x1)) (F1_designation : Fld Z h0 a1 "com/example/amendatory/amendatory/Provision" "designation" "Ljava/lang/String;" (.ref x2)) (F1_opening : Fld Z h0 a1 "com/example/amendatory/amendatory/Provision" "opening" "Ljava/lang/String;" (.ref x3)) (F1_firstLine : Fld Z h0 a1 "com/example/amendatory/amendatory/Provision" "firstLine" "I" (.int i1)) (F1_lastLine : Fld Z h0 a1 "com/example/amendatory/amendatory/Provision" "lastLine" "I" (.int l1)) (F2_number : Fld Z h0 a2 "com/example/amendatory/amendatory/Provision" "number" "Ljava/lang/String;" (.ref y1)) (F2_designation : Fld Z h0 a2 "com/example/amendatory/amendatory/Provision" "designation" "Ljava/lang/String;" (.ref y2)) (F2_opening : Fld Z h0 a2 "com/example/amendatory/amendatory/Provision" "opening" "Ljava/lang/String;" (.ref y3)) (F2_firstLine : Fld Z h0 a2 "com/example/amendatory/amendatory/Provision" "firstLine" "I" (.int i2)) (F2_lastLine : Fld Z h0 a2 "com/example/amendatory/amendatory/Provision" "lastLine" "I" (.int l2)) (E2 : Exa Z h0 a2 "com/example/amendatory/amendatory/Provision") :
    MetFree l (⟨"com/example/amendatory/amendatory/Provision", "equals", "(Ljava/lang/Object;)Z"⟩ : MethodName) (head1 (Jvm.Cond.code (⟨"com/example/amendatory/amendatory/Provision", "equals", "(Ljava/lang/Object;)Z"⟩ : MethodName) prog_67_method_13_code 3 (some .boolean) :: ws) ({ frames := 2, cells := 0, slots := 0, locals := 28 } : Room)) (fun a U => a = #[(.ref a1), (.ref a2)] ∧ Z.Warmed39 U.vm ∧ U.heap = h0) (fun _ _ _ _ _ => True) (fun _ U o U' => ∃ v L, o = .returned v ∧ Q10 Z a1 a2 G1 i1 l1 i2 l2 x1 tx1 cx1 x2 tx2 cx2 x3 tx3 cx3 y1 ty1 cy1 y2 ty2 cy2 y3 ty3 cy3 h0 n0 v U'.heap L ∧ FrameEnd U o U' L ({ frames := 2, cells := 0, slots := 0, locals := 28 } : Room).cells ({ frames := 2, cells := 0, slots := 0, locals := 28 } : Room).slots) := by
  refine MetFree.of_bodySF (plainFor_of_name pn_1) hisR ?_
  intro p e s m args below meth c s₁ Bd hml0 hP hK
  obtain ⟨rfl, hZ, hh⟩ := hP
  have hx := Bd.exec
  have hby := Bd.bytes
  have hml : c.maxLocals = 3 := hml0
  have hown : s.vm.findClass "com/example/amendatory/amendatory/Provision" = some m.cls := findClass_of_methodNamed Bd.named
  have hnm := (name_of_methodNamed Bd.named Bd.method).1
  have X0 : Stand p l e ({ frames := 2, cells := 0, slots := 0, locals := 28 } : Room) s m #[(.ref a1), (.ref a2)] below meth c s₁ [] 0 0 := Stand.of_body Bd
  have e0 : s₁.heap = h0 := by rw [← hh, Bd.state]; rfl
  have N0 := Fr.nil n0
  show Go p e below s (Q10 Z a1 a2 G1 i1 l1 i2 l2 x1 tx1 cx1 x2 tx2 cx2 x3 tx3 cx3 y1 ty1 cy1 y2 ty2 cy2 y3 ty3 cy3 h0 n0) ({ frames := 2, cells := 0, slots := 0, locals := 28 } : Room).cells ({ frames := 2, cells := 0, slots := 0, locals := 28 } : Room).slots _
  refine Go.via (S' := s₁.setTop (mkF m 0 #[.val (.ref a1), .val (.ref a2), .unset] [])) (fun t k => castTop (ef_10 m a1 a2) k) ?_
  have heq : ∀ d ∈ StrChars.Road.wordsEq, d.before a0 Z = true := fun d hd => hw d ((by decide +kernel : ∀ d ∈ StrChars.Road.wordsEq, d ∈ tables_1) d hd)
  refine Go.via (S' := s₁.setTop (mkF m 1 #[.val (.ref a1), .val (.ref a2), .unset] [(.ref a2)])) (fun _ k => XS.aloadN X0.here hx rfl (hb hby d10_0) rfl rfl k) ?_
  obtain ⟨T1, X1, e1, st1⟩ := instY X0 hx hZ hown (hw _ (List.mem_of_getElem? (i := 60) rfl)) e0 (Ins.self E2) (g := (mkF m 1 #[.val (.ref a1), .val (.ref a2), .unset] [(.ref a2)])) rfl rfl (hb hby d10_1)
  refine Go.via (S' := T1.setTop (mkF m 4 #[.val (.ref a1), .val (.ref a2), .unset] [(.int (1 : Int32))])) (fun _ k => st1 _ k) ?_
  refine Go.via (S' := T1.setTop (mkF m 7 #[.val (.ref a1), .val (.ref a2), .unset] [])) (fun _ k => XS.ifNo X1.here hx rfl (hb hby d10_4) rfl ((if0 _ _).trans (feq (by decide)).1) k) ?_
  refine Go.via (S' := T1.setTop (mkF m 8 #[.val (.ref a1), .val (.ref a2), .unset] [(.ref a2)])) (fun _ k => XS.aloadN X1.here hx rfl (hb hby d10_7) rfl rfl k) ?_
  obtain ⟨T2, X2, e2, st2⟩ := castY X1 hx hZ hown (hw _ (List.mem_of_getElem? (i := 60) rfl)) e1 (Ins.self E2) (g := (mkF m 8 #[.val (.ref a1), .val (.ref a2), .unset] [(.ref a2)])) rfl rfl (hb hby d10_8)
  refine Go.via (S' := T2.setTop (mkF m 11 #[.val (.ref a1), .val (.ref a2), .unset] [(.ref a2)])) (fun _ k => st2 _ k) ?_
  refine Go.via (S' := T2.setTop (mkF m 12 #[.val (.ref a1), .val (.ref a2), .val (.ref a2)] [])) (fun _ k => XS.astoreN X2.here hx rfl (hb hby d10_11) rfl rfl (l' := #[.val (.ref a1), .val (.ref a2), .val (.ref a2)]) rfl k) ?_
  refine Go.via (S' := T2.setTop (mkF m 13 #[.val (.ref a1), .val (.ref a2), .val (.ref a2)] [(.ref a1)])) (fun _ k => XS.aloadN X2.here hx rfl (hb hby d10_12) rfl rfl k) ?_
  obtain ⟨T3, X3, e3, st3⟩ := getF X2 hx hZ hown (host := "") (Or.inl (hw _ (List.mem_of_getElem? (i := 45) rfl))) Via.refl e2 F1_number (g := (mkF m 13 #[.val (.ref a1), .val (.ref a2), .val (.ref a2)] [(.ref a1)])) rfl rfl (hb hby d10_13)
  refine Go.via (S' := T3.setTop (mkF m 16 #[.val (.ref a1), .val (.ref a2), .val (.ref a2)] [(.ref x1)])) (fun _ k => st3 _ k) ?_
  refine Go.via (S' := T3.setTop (mkF m 17 #[.val (.ref a1), .val (.ref a2), .val (.ref a2)] [(.ref a2), (.ref x1)])) (fun _ k => XS.aloadN X3.here hx rfl (hb hby d10_16) rfl rfl k) ?_
  obtain ⟨T4, X4, e4, st4⟩ := getF X3 hx hZ hown (host := "") (Or.inl (hw _ (List.mem_of_getElem? (i := 45) rfl))) Via.refl e3 F2_number (g := (mkF m 17 #[.val (.ref a1), .val (.ref a2), .val (.ref a2)] [(.ref a2), (.ref x1)])) rfl rfl (hb hby d10_17)
  refine Go.via (S' := T4.setTop (mkF m 20 #[.val (.ref a1), .val (.ref a2), .val (.ref a2)] [(.ref y1), (.ref x1)])) (fun _ k => st4 _ k) ?_
  obtain ⟨q5a, q5b, q5c, q5d, q5e, q5f, q5g, q5h, q5i, q5j, q5k⟩ := id S_x1
  obtain ⟨q5A, q5B, q5C, q5D, q5E, q5F, q5G, q5H, q5I, q5J, q5K⟩ := id S_y1
  obtain ⟨cq6, kq6, q6a, q6b, q6c⟩ := isOf hZ e4 q5e
  obtain ⟨_, _, ⟨T6, L6, k6, n6⟩, -, X6, ⟨Lc6, hQ6, l6, y6, z6⟩, st6⟩ := X4.virtualBack hx (y := (⟨"java/lang/String", "equals", "(Ljava/lang/Object;)Z"⟩ : MethodName)) (z := (⟨"java/lang/String", "equals", "(Ljava/lang/Object;)Z"⟩ : MethodName)) hown (mvT hZ (hw _ (List.mem_of_getElem? (i := 62) rfl))) (mvT hZ (hw _ (List.mem_of_getElem? (i := 63) rfl))) (notFace_of_selects (args := #[]) (mvT hZ (hw _ (List.mem_of_getElem? (i := 65) rfl)))) (mvT hZ (hw _ (List.mem_of_getElem? (i := 65) rfl))) (mvT hZ (hw _ (List.mem_of_getElem? (i := 64) rfl))) (by decide) (StrChars.Road.eqW (W := 0) hZ heq (kI := 4) (hw _ (List.mem_of_getElem? (i := 12) rfl)) q5e q5f q5g q5h q5i q5j q5k q5E q5F q5G q5H q5I q5J q5K (O2.ext X00.2) P5 (by decide) (by decide)) q6a q6c (g := (mkF m 20 #[.val (.ref a1), .val (.ref a2), .val (.ref a2)] [(.ref y1), (.ref x1)])) rfl (by rw [hml]; rfl) (Steps.refl _) (argsL := [(.ref y1)]) (rest := []) (lenOf pd_1 rfl) rfl (by show 2 * 0 + _ ≤ _; exact Nat.le_of_eq rfl) (hb hby d10_20) (fun _ _ => ⟨rfl, e4, (by decide : 0 + 0 ≤ _), (by decide : 0 + 0 ≤ _)⟩)
  dsimp only [Pt.U, Pt.locs, Pt.cells, Pt.slots] at X6 l6 y6 z6 st6 hQ6
  subst l6 y6 z6
  obtain ⟨hcs6, rfl, e6⟩ := hQ6
  have N6q : Fr n0 ([] : List Loc) := Fr.nil n0
  obtain ⟨r6, rfl, hr6⟩ := own_eqv hcs6
  have N7 := Fr.app N0 N6q
  refine Go.via (S' := T6.setTop (mkF m 23 #[.val (.ref a1), .val (.ref a2), .val (.ref a2)] [(.int r6)])) (fun _ k => st6.trans k) ?_
  rcases hr6 with ⟨rfl, hS6⟩ | ⟨rfl, hS6⟩
  · refine Go.via (S' := T6.setTop (mkF m 26 #[.val (.ref a1), .val (.ref a2), .val (.ref a2)] [])) (fun _ k => XS.ifNo X6.here hx rfl (hb hby d10_23) rfl ((if0 _ _).trans (feq (by decide)).1) k) ?_
    refine Go.via (S' := T6.setTop (mkF m 27 #[.val (.ref a1), .val (.ref a2), .val (.ref a2)] [(.ref a1)])) (fun _ k => XS.aloadN X6.here hx rfl (hb hby d10_26) rfl rfl k) ?_
    obtain ⟨T8, X8, e8, st8⟩ := getF X6 hx hZ hown (host := "") (Or.inl (hw _ (List.mem_of_getElem? (i := 47) rfl))) Via.refl e6 F1_designation (g := (mkF m 27 #[.val (.ref a1), .val (.ref a2), .val (.ref a2)] [(.ref a1)])) rfl rfl (hb hby d10_27)
    refine Go.via (S' := T8.setTop (mkF m 30 #[.val (.ref a1), .val (.ref a2), .val (.ref a2)] [(.ref x2)])) (fun _ k => st8 _ k) ?_
    refine Go.via (S' := T8.setTop (mkF m 31 #[.val (.ref a1), .val (.ref a2), .val (.ref a2)] [(.ref a2), (.ref x2)])) (fun _ k => XS.aloadN X8.here hx rfl (hb hby d10_30) rfl rfl k) ?_
    obtain ⟨T9, X9, e9, st9⟩ := getF X8 hx hZ hown (host := "") (Or.inl (hw _ (List.mem_of_getElem? (i := 47) rfl))) Via.refl e8 F2_designation (g := (mkF m 31 #[.val (.ref a1), .val (.ref a2), .val (.ref a2)] [(.ref a2), (.ref x2)])) rfl rfl (hb hby d10_31)
    refine Go.via (S' := T9.setTop (mkF m 34 #[.val (.ref a1), .val (.ref a2), .val (.ref a2)] [(.ref y2), (.ref x2)])) (fun _ k => st9 _ k) ?_
    obtain ⟨q10a, q10b, q10c, q10d, q10e, q10f, q10g, q10h, q10i, q10j, q10k⟩ := id S_x2
    obtain ⟨q10A, q10B, q10C, q10D, q10E, q10F, q10G, q10H, q10I, q10J, q10K⟩ := id S_y2
    obtain ⟨cq11, kq11, q11a, q11b, q11c⟩ := isOf hZ e9 q10e
    obtain ⟨_, _, ⟨T11, L11, k11, n11⟩, -, X11, ⟨Lc11, hQ11, l11, y11, z11⟩, st11⟩ := X9.virtualBack hx (y := (⟨"java/lang/String", "equals", "(Ljava/lang/Object;)Z"⟩ : MethodName)) (z := (⟨"java/lang/String", "equals", "(Ljava/lang/Object;)Z"⟩ : MethodName)) hown (mvT hZ (hw _ (List.mem_of_getElem? (i := 62) rfl))) (mvT hZ (hw _ (List.mem_of_getElem? (i := 63) rfl))) (notFace_of_selects (args := #[]) (mvT hZ (hw _ (List.mem_of_getElem? (i := 65) rfl)))) (mvT hZ (hw _ (List.mem_of_getElem? (i := 65) rfl))) (mvT hZ (hw _ (List.mem_of_getElem? (i := 64) rfl))) (by decide) (StrChars.Road.eqW (W := 0) hZ heq (kI := 4) (hw _ (List.mem_of_getElem? (i := 12) rfl)) q10e q10f q10g q10h q10i q10j q10k q10E q10F q10G q10H q10I q10J q10K (O2.ext X00.2) P5 (by decide) (by decide)) q11a q11c (g := (mkF m 34 #[.val (.ref a1), .val (.ref a2), .val (.ref a2)] [(.ref y2), (.ref x2)])) rfl (by rw [hml]; rfl) (Steps.refl _) (argsL := [(.ref y2)]) (rest := []) (lenOf pd_1 rfl) rfl (by show 2 * 0 + _ ≤ _; exact Nat.le_of_eq rfl) (hb hby d10_34) (fun _ _ => ⟨rfl, e9, (by decide : 0 + 0 ≤ _), (by decide : 0 + 0 ≤ _)⟩)
    dsimp only [Pt.U, Pt.locs, Pt.cells, Pt.slots] at X11 l11 y11 z11 st11 hQ11
    subst l11 y11 z11
    obtain ⟨hcs11, rfl, e11⟩ := hQ11
    have N11q : Fr n0 ([] : List Loc) := Fr.nil n0
    obtain ⟨r11, rfl, hr11⟩ := own_eqv hcs11
    have N12 := Fr.app N7 N11q
    refine Go.via (S' := T11.setTop (mkF m 37 #[.val (.ref a1), .val (.ref a2), .val (.ref a2)] [(.int r11)])) (fun _ k => st11.trans k) ?_
    rcases hr11 with ⟨rfl, hS11⟩ | ⟨rfl, hS11⟩
    · refine Go.via (S' := T11.setTop (mkF m 40 #[.val (.ref a1), .val (.ref a2), .val (.ref a2)] [])) (fun _ k => XS.ifNo X11.here hx rfl (hb hby d10_37) rfl ((if0 _ _).trans (feq (by decide)).1) k) ?_
      refine Go.via (S' := T11.setTop (mkF m 41 #[.val (.ref a1), .val (.ref a2), .val (.ref a2)] [(.ref a1)])) (fun _ k => XS.aloadN X11.here hx rfl (hb hby d10_40) rfl rfl k) ?_
      obtain ⟨T13, X13, e13, st13⟩ := getF X11 hx hZ hown (host := "") (Or.inl (hw _ (List.mem_of_getElem? (i := 49) rfl))) Via.refl e11 F1_opening (g := (mkF m 41 #[.val (.ref a1), .val (.ref a2), .val (.ref a2)] [(.ref a1)])) rfl rfl (hb hby d10_41)
      refine Go.via (S' := T13.setTop (mkF m 44 #[.val (.ref a1), .val (.ref a2), .val (.ref a2)] [(.ref x3)])) (fun _ k => st13 _ k) ?_
      refine Go.via (S' := T13.setTop (mkF m 45 #[.val (.ref a1), .val (.ref a2), .val (.ref a2)] [(.ref a2), (.ref x3)])) (fun _ k => XS.aloadN X13.here hx rfl (hb hby d10_44) rfl rfl k) ?_
      obtain ⟨T14, X14, e14, st14⟩ := getF X13 hx hZ hown (host := "") (Or.inl (hw _ (List.mem_of_getElem? (i := 49) rfl))) Via.refl e13 F2_opening (g := (mkF m 45 #[.val (.ref a1), .val (.ref a2), .val (.ref a2)] [(.ref a2), (.ref x3)])) rfl rfl (hb hby d10_45)
      refine Go.via (S' := T14.setTop (mkF m 48 #[.val (.ref a1), .val (.ref a2), .val (.ref a2)] [(.ref y3), (.ref x3)])) (fun _ k => st14 _ k) ?_
      obtain ⟨q15a, q15b, q15c, q15d, q15e, q15f, q15g, q15h, q15i, q15j, q15k⟩ := id S_x3
      obtain ⟨q15A, q15B, q15C, q15D, q15E, q15F, q15G, q15H, q15I, q15J, q15K⟩ := id S_y3
      obtain ⟨cq16, kq16, q16a, q16b, q16c⟩ := isOf hZ e14 q15e
      obtain ⟨_, _, ⟨T16, L16, k16, n16⟩, -, X16, ⟨Lc16, hQ16, l16, y16, z16⟩, st16⟩ := X14.virtualBack hx (y := (⟨"java/lang/String", "equals", "(Ljava/lang/Object;)Z"⟩ : MethodName)) (z := (⟨"java/lang/String", "equals", "(Ljava/lang/Object;)Z"⟩ : MethodName)) hown (mvT hZ (hw _ (List.mem_of_getElem? (i := 62) rfl))) (mvT hZ (hw _ (List.mem_of_getElem? (i := 63) rfl))) (notFace_of_selects (args := #[]) (mvT hZ (hw _ (List.mem_of_getElem? (i := 65) rfl)))) (mvT hZ (hw _ (List.mem_of_getElem? (i := 65) rfl))) (mvT hZ (hw _ (List.mem_of_getElem? (i := 64) rfl))) (by decide) (StrChars.Road.eqW (W := 0) hZ heq (kI := 4) (hw _ (List.mem_of_getElem? (i := 12) rfl)) q15e q15f q15g q15h q15i q15j q15k q15E q15F q15G q15H q15I q15J q15K (O2.ext X00.2) P5 (by decide) (by decide)) q16a q16c (g := (mkF m 48 #[.val (.ref a1), .val (.ref a2), .val (.ref a2)] [(.ref y3), (.ref x3)])) rfl (by rw [hml]; rfl) (Steps.refl _) (argsL := [(.ref y3)]) (rest := []) (lenOf pd_1 rfl) rfl (by show 2 * 0 + _ ≤ _; exact Nat.le_of_eq rfl) (hb hby d10_48) (fun _ _ => ⟨rfl, e14, (by decide : 0 + 0 ≤ _), (by decide : 0 + 0 ≤ _)⟩)
      dsimp only [Pt.U, Pt.locs, Pt.cells, Pt.slots] at X16 l16 y16 z16 st16 hQ16
      subst l16 y16 z16
      obtain ⟨hcs16, rfl, e16⟩ := hQ16
      have N16q : Fr n0 ([] : List Loc) := Fr.nil n0
      obtain ⟨r16, rfl, hr16⟩ := own_eqv hcs16
      have N17 := Fr.app N12 N16q
      refine Go.via (S' := T16.setTop (mkF m 51 #[.val (.ref a1), .val (.ref a2), .val (.ref a2)] [(.int r16)])) (fun _ k => st16.trans k) ?_
      rcases hr16 with ⟨rfl, hS16⟩ | ⟨rfl, hS16⟩
      · refine Go.via (S' := T16.setTop (mkF m 54 #[.val (.ref a1), .val (.ref a2), .val (.ref a2)] [])) (fun _ k => XS.ifNo X16.here hx rfl (hb hby d10_51) rfl ((if0 _ _).trans (feq (by decide)).1) k) ?_
        refine Go.via (S' := T16.setTop (mkF m 55 #[.val (.ref a1), .val (.ref a2), .val (.ref a2)] [(.ref a1)])) (fun _ k => XS.aloadN X16.here hx rfl (hb hby d10_54) rfl rfl k) ?_
        obtain ⟨T18, X18, e18, st18⟩ := getF X16 hx hZ hown (host := "") (Or.inl (hw _ (List.mem_of_getElem? (i := 51) rfl))) Via.refl e16 F1_firstLine (g := (mkF m 55 #[.val (.ref a1), .val (.ref a2), .val (.ref a2)] [(.ref a1)])) rfl rfl (hb hby d10_55)
        refine Go.via (S' := T18.setTop (mkF m 58 #[.val (.ref a1), .val (.ref a2), .val (.ref a2)] [(.int i1)])) (fun _ k => st18 _ k) ?_
        refine Go.via (S' := T18.setTop (mkF m 59 #[.val (.ref a1), .val (.ref a2), .val (.ref a2)] [(.ref a2), (.int i1)])) (fun _ k => XS.aloadN X18.here hx rfl (hb hby d10_58) rfl rfl k) ?_
        obtain ⟨T19, X19, e19, st19⟩ := getF X18 hx hZ hown (host := "") (Or.inl (hw _ (List.mem_of_getElem? (i := 51) rfl))) Via.refl e18 F2_firstLine (g := (mkF m 59 #[.val (.ref a1), .val (.ref a2), .val (.ref a2)] [(.ref a2), (.int i1)])) rfl rfl (hb hby d10_59)
        refine Go.via (S' := T19.setTop (mkF m 62 #[.val (.ref a1), .val (.ref a2), .val (.ref a2)] [(.int i2), (.int i1)])) (fun _ k => st19 _ k) ?_
        rcases Decidable.em (i1 = i2) with hc62 | hc62
        · refine Go.via (S' := T19.setTop (mkF m 65 #[.val (.ref a1), .val (.ref a2), .val (.ref a2)] [])) (fun _ k => XS.icmpNo X19.here hx rfl (hb hby d10_62) rfl (teq hc62).2 k) ?_
          refine Go.via (S' := T19.setTop (mkF m 66 #[.val (.ref a1), .val (.ref a2), .val (.ref a2)] [(.ref a1)])) (fun _ k => XS.aloadN X19.here hx rfl (hb hby d10_65) rfl rfl k) ?_
          obtain ⟨T20, X20, e20, st20⟩ := getF X19 hx hZ hown (host := "") (Or.inl (hw _ (List.mem_of_getElem? (i := 53) rfl))) Via.refl e19 F1_lastLine (g := (mkF m 66 #[.val (.ref a1), .val (.ref a2), .val (.ref a2)] [(.ref a1)])) rfl rfl (hb hby d10_66)
          refine Go.via (S' := T20.setTop (mkF m 69 #[.val (.ref a1), .val (.ref a2), .val (.ref a2)] [(.int l1)])) (fun _ k => st20 _ k) ?_
          refine Go.via (S' := T20.setTop (mkF m 70 #[.val (.ref a1), .val (.ref a2), .val (.ref a2)] [(.ref a2), (.int l1)])) (fun _ k => XS.aloadN X20.here hx rfl (hb hby d10_69) rfl rfl k) ?_
          obtain ⟨T21, X21, e21, st21⟩ := getF X20 hx hZ hown (host := "") (Or.inl (hw _ (List.mem_of_getElem? (i := 53) rfl))) Via.refl e20 F2_lastLine (g := (mkF m 70 #[.val (.ref a1), .val (.ref a2), .val (.ref a2)] [(.ref a2), (.int l1)])) rfl rfl (hb hby d10_70)
          refine Go.via (S' := T21.setTop (mkF m 73 #[.val (.ref a1), .val (.ref a2), .val (.ref a2)] [(.int l2), (.int l1)])) (fun _ k => st21 _ k) ?_
          rcases Decidable.em (l1 = l2) with hc73 | hc73
          · refine Go.via (S' := T21.setTop (mkF m 76 #[.val (.ref a1), .val (.ref a2), .val (.ref a2)] [])) (fun _ k => XS.icmpNo X21.here hx rfl (hb hby d10_73) rfl (teq hc73).2 k) ?_
            refine Go.via (S' := T21.setTop (mkF m 77 #[.val (.ref a1), .val (.ref a2), .val (.ref a2)] [(.int (1 : Int32))])) (fun _ k => XS.iconst X21.here hx rfl (hb hby d10_76) k) ?_
            refine Go.via (S' := T21.setTop (mkF m 81 #[.val (.ref a1), .val (.ref a2), .val (.ref a2)] [(.int (1 : Int32))])) (fun _ k => XS.goto X21.here hx rfl (pc0 := 77) (pc' := 81) rfl (hb hby d10_77) (by decide) (by decide) k) ?_
            exact Go.retB X21 hx (BodyLoose.notSynchronized Bd) Bd.returns (hb hby d10_81) rfl (by rw [e21]; exact ⟨_, rfl, N17, rfl, Or.inl ⟨rfl, hS6, hS11, hS16, hc62, hc73⟩⟩) (by decide) (by decide)
          · refine Go.via (S' := T21.setTop (mkF m 80 #[.val (.ref a1), .val (.ref a2), .val (.ref a2)] [])) (fun _ k => XS.icmpYes X21.here hx rfl (pc0 := 73) (pc' := 80) rfl (hb hby d10_73) rfl (feq hc73).2 (by decide) (by decide) k) ?_
            refine Go.via (S' := T21.setTop (mkF m 81 #[.val (.ref a1), .val (.ref a2), .val (.ref a2)] [(.int (0 : Int32))])) (fun _ k => XS.iconst X21.here hx rfl (hb hby d10_80) k) ?_
            exact Go.retB X21 hx (BodyLoose.notSynchronized Bd) Bd.returns (hb hby d10_81) rfl (by rw [e21]; exact ⟨_, rfl, N17, rfl, Or.inr ⟨rfl, fun q => hc73 q.2.2.2.2⟩⟩) (by decide) (by decide)
        · refine Go.via (S' := T19.setTop (mkF m 80 #[.val (.ref a1), .val (.ref a2), .val (.ref a2)] [])) (fun _ k => XS.icmpYes X19.here hx rfl (pc0 := 62) (pc' := 80) rfl (hb hby d10_62) rfl (feq hc62).2 (by decide) (by decide) k) ?_
          refine Go.via (S' := T19.setTop (mkF m 81 #[.val (.ref a1), .val (.ref a2), .val (.ref a2)] [(.int (0 : Int32))])) (fun _ k => XS.iconst X19.here hx rfl (hb hby d10_80) k) ?_
          exact Go.retB X19 hx (BodyLoose.notSynchronized Bd) Bd.returns (hb hby d10_81) rfl (by rw [e19]; exact ⟨_, rfl, N17, rfl, Or.inr ⟨rfl, fun q => hc62 q.2.2.2.1⟩⟩) (by decide) (by decide)
      · refine Go.via (S' := T16.setTop (mkF m 80 #[.val (.ref a1), .val (.ref a2), .val (.ref a2)] [])) (fun _ k => XS.ifYes X16.here hx rfl (pc0 := 51) (pc' := 80) rfl (hb hby d10_51) rfl ((if0 _ _).trans (teq (by decide)).1) (by decide) (by decide) k) ?_
        refine Go.via (S' := T16.setTop (mkF m 81 #[.val (.ref a1), .val (.ref a2), .val (.ref a2)] [(.int (0 : Int32))])) (fun _ k => XS.iconst X16.here hx rfl (hb hby d10_80) k) ?_
        exact Go.retB X16 hx (BodyLoose.notSynchronized Bd) Bd.returns (hb hby d10_81) rfl (by rw [e16]; exact ⟨_, rfl, N17, rfl, Or.inr ⟨rfl, fun q => hS16 q.2.2.1⟩⟩) (by decide) (by decide)
    · refine Go.via (S' := T11.setTop (mkF m 80 #[.val (.ref a1), .val (.ref a2), .val (.ref a2)] [])) (fun _ k => XS.ifYes X11.here hx rfl (pc0 := 37) (pc' := 80) rfl (hb hby d10_37) rfl ((if0 _ _).trans (teq (by decide)).1) (by decide) (by decide) k) ?_
      refine Go.via (S' := T11.setTop (mkF m 81 #[.val (.ref a1), .val (.ref a2), .val (.ref a2)] [(.int (0 : Int32))])) (fun _ k => XS.iconst X11.here hx rfl (hb hby d10_80) k) ?_
      exact Go.retB X11 hx (BodyLoose.notSynchronized Bd) Bd.returns (hb hby d10_81) rfl (by rw [e11]; exact ⟨_, rfl, N12, rfl, Or.inr ⟨rfl, fun q => hS11 q.2.1⟩⟩) (by decide) (by decide)
  · refine Go.via (S' := T6.setTop (mkF m 80 #[.val (.ref a1), .val (.ref a2), .val (.ref a2)] [])) (fun _ k => XS.ifYes X6.here hx rfl (pc0 := 23) (pc' := 80) rfl (hb hby d10_23) rfl ((if0 _ _).trans (teq (by decide)).1) (by decide) (by decide) k) ?_
    refine Go.via (S' := T6.setTop (mkF m 81 #[.val (.ref a1), .val (.ref a2), .val (.ref a2)] [(.int (0 : Int32))])) (fun _ k => XS.iconst X6.here hx rfl (hb hby d10_80) k) ?_
    exact Go.retB X6 hx (BodyLoose.notSynchronized Bd) Bd.returns (hb hby d10_81) rfl (by rw [e6]; exact ⟨_, rfl, N7, rfl, Or.inr ⟨rfl, fun q => hS6 q.1⟩⟩) (by decide) (by decide)
theorem ef_10n (m : MethodId) (x0 : Addr) : entryFrame m #[(.ref x0), .null] 3 = mkF m 0 #[.val (.ref x0), .val .null, .unset] [] := by first | (simp [entryFrame, mkF, argsToLocals, Value.category]; done) | rfl
def Q10n (Z : State) (a1 : Addr) (h0 : Heap) (n0 : Nat) (v : Option Value) (h : Heap) (L : List Loc) : Prop := v = some (.int 0) ∧ Fr n0 L ∧ h = h0
set_option maxRecDepth 65536 in
set_option maxHeartbeats 40000000 in
theorem rm10n (l : Launch) (Z : State) (a0 : Array Value) (hw : ∀ d ∈ tables_1, d.before a0 Z = true) (ws : List Jvm.Cond) (a1 : Addr) (h0 : Heap) (n0 : Nat) (Z0 : n0 ≤ h0.size) :
    MetFree l (⟨"com/example/amendatory/amendatory/Provision", "equals", "(Ljava/lang/Object;)Z"⟩ : MethodName) (head1 (Jvm.Cond.code (⟨"com/example/amendatory/amendatory/Provision", "equals", "(Ljava/lang/Object;)Z"⟩ : MethodName) prog_67_method_13_code 3 (some .boolean) :: ws) ({ frames := 0, cells := 0, slots := 0, locals := 0 } : Room)) (fun a U => a = #[(.ref a1), .null] ∧ Z.Warmed39 U.vm ∧ U.heap = h0) (fun _ _ _ _ _ => True) (fun _ U o U' => ∃ v L, o = .returned v ∧ Q10n Z a1 h0 n0 v U'.heap L ∧ FrameEnd U o U' L ({ frames := 0, cells := 0, slots := 0, locals := 0 } : Room).cells ({ frames := 0, cells := 0, slots := 0, locals := 0 } : Room).slots) := by
  refine MetFree.of_bodySF (plainFor_of_name pn_1) hisR ?_
  intro p e s m args below meth c s₁ Bd hml0 hP hK
  obtain ⟨rfl, hZ, hh⟩ := hP
  have hx := Bd.exec
  have hby := Bd.bytes
  have hml : c.maxLocals = 3 := hml0
  have hown : s.vm.findClass "com/example/amendatory/amendatory/Provision" = some m.cls := findClass_of_methodNamed Bd.named
  have hnm := (name_of_methodNamed Bd.named Bd.method).1
  have X0 : Stand p l e ({ frames := 0, cells := 0, slots := 0, locals := 0 } : Room) s m #[(.ref a1), .null] below meth c s₁ [] 0 0 := Stand.of_body Bd
  have e0 : s₁.heap = h0 := by rw [← hh, Bd.state]; rfl
  have N0 := Fr.nil n0
  show Go p e below s (Q10n Z a1 h0 n0) ({ frames := 0, cells := 0, slots := 0, locals := 0 } : Room).cells ({ frames := 0, cells := 0, slots := 0, locals := 0 } : Room).slots _
  refine Go.via (S' := s₁.setTop (mkF m 0 #[.val (.ref a1), .val .null, .unset] [])) (fun t k => castTop (ef_10n m a1) k) ?_
  refine Go.via (S' := s₁.setTop (mkF m 1 #[.val (.ref a1), .val .null, .unset] [.null])) (fun _ k => XS.aloadN X0.here hx rfl (hb hby d10_0) rfl rfl k) ?_
  refine Go.via (S' := s₁.setTop (mkF m 4 #[.val (.ref a1), .val .null, .unset] [(.int (0 : Int32))])) (fun _ k => X0.instanceofNull hx (g := (mkF m 1 #[.val (.ref a1), .val .null, .unset] [.null])) rfl rfl (hb hby d10_1) _ k) ?_
  refine Go.via (S' := s₁.setTop (mkF m 80 #[.val (.ref a1), .val .null, .unset] [])) (fun _ k => XS.ifYes X0.here hx rfl (pc0 := 4) (pc' := 80) rfl (hb hby d10_4) rfl ((if0 _ _).trans (teq (by decide)).1) (by decide) (by decide) k) ?_
  refine Go.via (S' := s₁.setTop (mkF m 81 #[.val (.ref a1), .val .null, .unset] [(.int (0 : Int32))])) (fun _ k => XS.iconst X0.here hx rfl (hb hby d10_80) k) ?_
  exact Go.retB X0 hx (BodyLoose.notSynchronized Bd) Bd.returns (hb hby d10_81) rfl (by rw [e0]; exact ⟨rfl, N0, rfl⟩) (by decide) (by decide)
theorem ef_10s (m : MethodId) (x0 : Addr) (x1 : Addr) : entryFrame m #[(.ref x0), (.ref x1)] 3 = mkF m 0 #[.val (.ref x0), .val (.ref x1), .unset] [] := by first | (simp [entryFrame, mkF, argsToLocals, Value.category]; done) | rfl
def Q10s (Z : State) (a1 : Addr) (a2 : Addr) (h0 : Heap) (n0 : Nat) (v : Option Value) (h : Heap) (L : List Loc) : Prop := v = some (.int 0) ∧ Fr n0 L ∧ h = h0
set_option maxRecDepth 65536 in
set_option maxHeartbeats 40000000 in
theorem rm10s (l : Launch) (Z : State) (a0 : Array Value) (hw : ∀ d ∈ tables_1, d.before a0 Z = true) (ws : List Jvm.Cond) (a1 : Addr) (a2 : Addr) (h0 : Heap) (n0 : Nat) (Z0 : n0 ≤ h0.size) (E2 : Exa Z h0 a2 "java/lang/String") :
    MetFree l (⟨"com/example/amendatory/amendatory/Provision", "equals", "(Ljava/lang/Object;)Z"⟩ : MethodName) (head1 (Jvm.Cond.code (⟨"com/example/amendatory/amendatory/Provision", "equals", "(Ljava/lang/Object;)Z"⟩ : MethodName) prog_67_method_13_code 3 (some .boolean) :: ws) ({ frames := 0, cells := 0, slots := 0, locals := 0 } : Room)) (fun a U => a = #[(.ref a1), (.ref a2)] ∧ Z.Warmed39 U.vm ∧ U.heap = h0) (fun _ _ _ _ _ => True) (fun _ U o U' => ∃ v L, o = .returned v ∧ Q10s Z a1 a2 h0 n0 v U'.heap L ∧ FrameEnd U o U' L ({ frames := 0, cells := 0, slots := 0, locals := 0 } : Room).cells ({ frames := 0, cells := 0, slots := 0, locals := 0 } : Room).slots) := by
  refine MetFree.of_bodySF (plainFor_of_name pn_1) hisR ?_
  intro p e s m args below meth c s₁ Bd hml0 hP hK
  obtain ⟨rfl, hZ, hh⟩ := hP
  have hx := Bd.exec
  have hby := Bd.bytes
  have hml : c.maxLocals = 3 := hml0
  have hown : s.vm.findClass "com/example/amendatory/amendatory/Provision" = some m.cls := findClass_of_methodNamed Bd.named
  have hnm := (name_of_methodNamed Bd.named Bd.method).1
  have X0 : Stand p l e ({ frames := 0, cells := 0, slots := 0, locals := 0 } : Room) s m #[(.ref a1), (.ref a2)] below meth c s₁ [] 0 0 := Stand.of_body Bd
  have e0 : s₁.heap = h0 := by rw [← hh, Bd.state]; rfl
  have N0 := Fr.nil n0
  show Go p e below s (Q10s Z a1 a2 h0 n0) ({ frames := 0, cells := 0, slots := 0, locals := 0 } : Room).cells ({ frames := 0, cells := 0, slots := 0, locals := 0 } : Room).slots _
  refine Go.via (S' := s₁.setTop (mkF m 0 #[.val (.ref a1), .val (.ref a2), .unset] [])) (fun t k => castTop (ef_10s m a1 a2) k) ?_
  refine Go.via (S' := s₁.setTop (mkF m 1 #[.val (.ref a1), .val (.ref a2), .unset] [(.ref a2)])) (fun _ k => XS.aloadN X0.here hx rfl (hb hby d10_0) rfl rfl k) ?_
  obtain ⟨T2, X2, e2, st2⟩ := instNo X0 hx hZ hown (hw _ (List.mem_of_getElem? (i := 60) rfl)) e0 E2 (own_no (hw _ (List.mem_of_getElem? (i := 77) rfl)) (hw _ (List.mem_of_getElem? (i := 6) rfl)) (NS.step (hw _ (List.mem_of_getElem? (i := 77) rfl)) (own_root (hw _ (List.mem_of_getElem? (i := 78) rfl)) (hw _ (List.mem_of_getElem? (i := 6) rfl)) (by decide)) (by decide)) (by decide)) (g := (mkF m 1 #[.val (.ref a1), .val (.ref a2), .unset] [(.ref a2)])) rfl rfl (hb hby d10_1)
  refine Go.via (S' := T2.setTop (mkF m 4 #[.val (.ref a1), .val (.ref a2), .unset] [(.int (0 : Int32))])) (fun _ k => st2 _ k) ?_
  refine Go.via (S' := T2.setTop (mkF m 80 #[.val (.ref a1), .val (.ref a2), .unset] [])) (fun _ k => XS.ifYes X2.here hx rfl (pc0 := 4) (pc' := 80) rfl (hb hby d10_4) rfl ((if0 _ _).trans (teq (by decide)).1) (by decide) (by decide) k) ?_
  refine Go.via (S' := T2.setTop (mkF m 81 #[.val (.ref a1), .val (.ref a2), .unset] [(.int (0 : Int32))])) (fun _ k => XS.iconst X2.here hx rfl (hb hby d10_80) k) ?_
  exact Go.retB X2 hx (BodyLoose.notSynchronized Bd) Bd.returns (hb hby d10_81) rfl (by rw [e2]; exact ⟨rfl, N0, rfl⟩) (by decide) (by decide)
theorem pd_2 : parseMethodDescriptor "(JI)C" = some ⟨[.long, .int], some .char⟩ := by decide +kernel
theorem pd_3 : parseMethodDescriptor "(CC)Ljava/lang/String;" = some ⟨[.char, .char], some (.object "java/lang/String")⟩ := by decide +kernel
theorem pd_4 : parseMethodDescriptor "(Ljava/lang/String;Ljava/lang/String;Ljava/lang/String;II)V" = some ⟨[(.object "java/lang/String"), (.object "java/lang/String"), (.object "java/lang/String"), .int, .int], none⟩ := by decide +kernel
theorem pd_5 : parseMethodDescriptor "()Ljava/lang/String;" = some ⟨[], some (.object "java/lang/String")⟩ := by decide +kernel
theorem ef_0 (m : MethodId) (x0 : Int64) (x1 : Int64) (x2 : Int32) (x3 : Int32) (x4 : Int32) (x5 : Int32) : entryFrame m #[(.long x0), (.long x1), (.int x2), (.int x3), (.int x4), (.int x5)] maxLocals = mkF m 0 #[.val (.long x0), .second, .val (.long x1), .second, .val (.int x2), .val (.int x3), .val (.int x4), .val (.int x5), .unset, .unset, .unset, .unset, .unset, .unset, .unset, .unset, .unset, .unset, .unset, .unset, .unset, .unset, .unset, .unset, .unset, .unset, .unset, .unset, .unset, .unset, .unset, .unset, .unset] [] := by first | (simp [entryFrame, mkF, argsToLocals, Value.category, maxLocals]; done) | rfl
def Q0 (Z : State) (q1 : Int64) (q2 : Int64) (p3 : Int32) (p4 : Int32) (p5 : Int32) (p6 : Int32) (G1 : Int32) (h0 : Heap) (n0 : Nat) (v : Option Value) (h : Heap) (L : List Loc) : Prop := v = some (.int 1) ∧ Fr n0 L
set_option maxRecDepth 65536 in
set_option maxHeartbeats 40000000 in
theorem rm0 (l : Launch) (Z : State) (a0 : Array Value) (hw : ∀ d ∈ tables_1, d.before a0 Z = true) (ws : List Jvm.Cond) (q1 : Int64) (q2 : Int64) (p3 : Int32) (p4 : Int32) (p5 : Int32) (p6 : Int32) (G1 : Int32) (h0 : Heap) (n0 : Nat) (Z0 : n0 ≤ h0.size) (X00 : Old Z n0 h0) (O2 : Sta Z Z.heap "java/lang/String" "COMPACT_STRINGS" "Z" (.int G1)) (P5 : ¬ G1 = (0 : Int32)) :
    MetFree l x (head1 (Jvm.Cond.code x code maxLocals ret :: ws) room_1) (fun a U => a = #[(.long q1), (.long q2), (.int p3), (.int p4), (.int p5), (.int p6)] ∧ Z.Warmed39 U.vm ∧ U.heap = h0) (fun _ _ _ _ _ => True) (fun _ U o U' => ∃ v L, o = .returned v ∧ Q0 Z q1 q2 p3 p4 p5 p6 G1 h0 n0 v U'.heap L ∧ FrameEnd U o U' L room_1.cells room_1.slots) := by
  refine MetFree.of_bodySF (plainFor_of_name pn_0) hisR ?_
  intro p e s m args below meth c s₁ Bd hml0 hP hK
  obtain ⟨rfl, hZ, hh⟩ := hP
  have hx := Bd.exec
  have hby := Bd.bytes
  have hml : c.maxLocals = 33 := hml0
  have hown : s.vm.findClass "com/example/amendatory/amendatory/ProvisionEqualsPinLaw" = some m.cls := findClass_of_methodNamed Bd.named
  have hnm := (name_of_methodNamed Bd.named Bd.method).1
  have X0 : Stand p l e room_1 s m #[(.long q1), (.long q2), (.int p3), (.int p4), (.int p5), (.int p6)] below meth c s₁ [] 0 0 := Stand.of_body Bd
  have e0 : s₁.heap = h0 := by rw [← hh, Bd.state]; rfl
  have N0 := Fr.nil n0
  show Go p e below s (Q0 Z q1 q2 p3 p4 p5 p6 G1 h0 n0) room_1.cells room_1.slots _
  refine Go.via (S' := s₁.setTop (mkF m 0 #[.val (.long q1), .second, .val (.long q2), .second, .val (.int p3), .val (.int p4), .val (.int p5), .val (.int p6), .unset, .unset, .unset, .unset, .unset, .unset, .unset, .unset, .unset, .unset, .unset, .unset, .unset, .unset, .unset, .unset, .unset, .unset, .unset, .unset, .unset, .unset, .unset, .unset, .unset] [])) (fun t k => castTop (ef_0 m q1 q2 p3 p4 p5 p6) k) ?_
  refine Go.via (S' := s₁.setTop (mkF m 1 #[.val (.long q1), .second, .val (.long q2), .second, .val (.int p3), .val (.int p4), .val (.int p5), .val (.int p6), .unset, .unset, .unset, .unset, .unset, .unset, .unset, .unset, .unset, .unset, .unset, .unset, .unset, .unset, .unset, .unset, .unset, .unset, .unset, .unset, .unset, .unset, .unset, .unset, .unset] [(.long q1)])) (fun _ k => XS.lloadN X0.here hx rfl (hb hby at_0) rfl k) ?_
  refine Go.via (S' := s₁.setTop (mkF m 2 #[.val (.long q1), .second, .val (.long q2), .second, .val (.int p3), .val (.int p4), .val (.int p5), .val (.int p6), .unset, .unset, .unset, .unset, .unset, .unset, .unset, .unset, .unset, .unset, .unset, .unset, .unset, .unset, .unset, .unset, .unset, .unset, .unset, .unset, .unset, .unset, .unset, .unset, .unset] [(.int (0 : Int32)), (.long q1)])) (fun _ k => XS.iconst X0.here hx rfl (hb hby at_1) k) ?_
  obtain ⟨_, _, ⟨T1, L1, k1, n1⟩, -, X1, ⟨Lc1, hQ1, l1, y1, z1⟩, st1⟩ := Jvm.LawKit.callS X0 hx (y := (⟨"com/example/amendatory/amendatory/ProvisionEqualsPinLaw", "ch", "(JI)C"⟩ : MethodName)) hown (mvT hZ (hw _ (List.mem_of_getElem? (i := 0) rfl))) (mvT hZ (hw _ (List.mem_of_getElem? (i := 1) rfl))) (mvT hZ (hw _ (List.mem_of_getElem? (i := 2) rfl))) (mvT hZ (hw _ (List.mem_of_getElem? (i := 3) rfl))) (by decide) (backOf (W := 0) (rm1 l Z a0 hw [] q1 (0 : Int32) h0 n0 Z0) hZ (hw _ (List.mem_of_getElem? (i := 3) rfl)) (hw _ (List.mem_of_getElem? (i := 2) rfl)) (by decide) (by decide)) (g := (mkF m 2 #[.val (.long q1), .second, .val (.long q2), .second, .val (.int p3), .val (.int p4), .val (.int p5), .val (.int p6), .unset, .unset, .unset, .unset, .unset, .unset, .unset, .unset, .unset, .unset, .unset, .unset, .unset, .unset, .unset, .unset, .unset, .unset, .unset, .unset, .unset, .unset, .unset, .unset, .unset] [(.int (0 : Int32)), (.long q1)])) rfl (by rw [hml]; rfl) (argsL := [(.long q1), (.int (0 : Int32))]) (rest := []) (lenOf pd_2 rfl) rfl (by show 2 * 0 + _ ≤ _; exact Nat.le_of_eq rfl) (hb hby at_2) (fun _ _ => ⟨rfl, e0, (by decide : 0 + 0 ≤ _), (by decide : 0 + 0 ≤ _)⟩)
  dsimp only [Pt.U, Pt.locs, Pt.cells, Pt.slots] at X1 l1 y1 z1 st1 hQ1
  subst l1 y1 z1
  obtain ⟨r1, rfl, N1q, e1, hr1⟩ := hQ1
  have N2 := Fr.app N0 N1q
  refine Go.via (S' := T1.setTop (mkF m 5 #[.val (.long q1), .second, .val (.long q2), .second, .val (.int p3), .val (.int p4), .val (.int p5), .val (.int p6), .unset, .unset, .unset, .unset, .unset, .unset, .unset, .unset, .unset, .unset, .unset, .unset, .unset, .unset, .unset, .unset, .unset, .unset, .unset, .unset, .unset, .unset, .unset, .unset, .unset] [(.int r1)])) (fun _ k => st1 _ k) ?_
  refine Go.via (S' := T1.setTop (mkF m 7 #[.val (.long q1), .second, .val (.long q2), .second, .val (.int p3), .val (.int p4), .val (.int p5), .val (.int p6), .val (.int r1), .unset, .unset, .unset, .unset, .unset, .unset, .unset, .unset, .unset, .unset, .unset, .unset, .unset, .unset, .unset, .unset, .unset, .unset, .unset, .unset, .unset, .unset, .unset, .unset] [])) (fun _ k => XS.istore X1.here hx rfl (hb hby at_5) rfl (l' := #[.val (.long q1), .second, .val (.long q2), .second, .val (.int p3), .val (.int p4), .val (.int p5), .val (.int p6), .val (.int r1), .unset, .unset, .unset, .unset, .unset, .unset, .unset, .unset, .unset, .unset, .unset, .unset, .unset, .unset, .unset, .unset, .unset, .unset, .unset, .unset, .unset, .unset, .unset, .unset]) rfl k) ?_
  refine Go.via (S' := T1.setTop (mkF m 8 #[.val (.long q1), .second, .val (.long q2), .second, .val (.int p3), .val (.int p4), .val (.int p5), .val (.int p6), .val (.int r1), .unset, .unset, .unset, .unset, .unset, .unset, .unset, .unset, .unset, .unset, .unset, .unset, .unset, .unset, .unset, .unset, .unset, .unset, .unset, .unset, .unset, .unset, .unset, .unset] [(.long q1)])) (fun _ k => XS.lloadN X1.here hx rfl (hb hby at_7) rfl k) ?_
  refine Go.via (S' := T1.setTop (mkF m 10 #[.val (.long q1), .second, .val (.long q2), .second, .val (.int p3), .val (.int p4), .val (.int p5), .val (.int p6), .val (.int r1), .unset, .unset, .unset, .unset, .unset, .unset, .unset, .unset, .unset, .unset, .unset, .unset, .unset, .unset, .unset, .unset, .unset, .unset, .unset, .unset, .unset, .unset, .unset, .unset] [(.int (8 : Int32)), (.long q1)])) (fun _ k => XS.bipush X1.here hx rfl (hb hby at_8) k) ?_
  obtain ⟨_, _, ⟨T3, L3, k3, n3⟩, -, X3, ⟨Lc3, hQ3, l3, y3, z3⟩, st3⟩ := Jvm.LawKit.callS X1 hx (y := (⟨"com/example/amendatory/amendatory/ProvisionEqualsPinLaw", "ch", "(JI)C"⟩ : MethodName)) hown (mvT hZ (hw _ (List.mem_of_getElem? (i := 0) rfl))) (mvT hZ (hw _ (List.mem_of_getElem? (i := 1) rfl))) (mvT hZ (hw _ (List.mem_of_getElem? (i := 2) rfl))) (mvT hZ (hw _ (List.mem_of_getElem? (i := 3) rfl))) (by decide) (backOf (W := 0) (rm1 l Z a0 hw [] q1 (8 : Int32) h0 n0 Z0) hZ (hw _ (List.mem_of_getElem? (i := 3) rfl)) (hw _ (List.mem_of_getElem? (i := 2) rfl)) (by decide) (by decide)) (g := (mkF m 10 #[.val (.long q1), .second, .val (.long q2), .second, .val (.int p3), .val (.int p4), .val (.int p5), .val (.int p6), .val (.int r1), .unset, .unset, .unset, .unset, .unset, .unset, .unset, .unset, .unset, .unset, .unset, .unset, .unset, .unset, .unset, .unset, .unset, .unset, .unset, .unset, .unset, .unset, .unset, .unset] [(.int (8 : Int32)), (.long q1)])) rfl (by rw [hml]; rfl) (argsL := [(.long q1), (.int (8 : Int32))]) (rest := []) (lenOf pd_2 rfl) rfl (by show 2 * 0 + _ ≤ _; exact Nat.le_of_eq rfl) (hb hby at_10) (fun _ _ => ⟨rfl, e1, (by decide : 0 + 0 ≤ _), (by decide : 0 + 0 ≤ _)⟩)
  dsimp only [Pt.U, Pt.locs, Pt.cells, Pt.slots] at X3 l3 y3 z3 st3 hQ3
  subst l3 y3 z3
  obtain ⟨r3, rfl, N3q, e3, hr3⟩ := hQ3
  have N4 := Fr.app N2 N3q
  refine Go.via (S' := T3.setTop (mkF m 13 #[.val (.long q1), .second, .val (.long q2), .second, .val (.int p3), .val (.int p4), .val (.int p5), .val (.int p6), .val (.int r1), .unset, .unset, .unset, .unset, .unset, .unset, .unset, .unset, .unset, .unset, .unset, .unset, .unset, .unset, .unset, .unset, .unset, .unset, .unset, .unset, .unset, .unset, .unset, .unset] [(.int r3)])) (fun _ k => st3 _ k) ?_
  refine Go.via (S' := T3.setTop (mkF m 15 #[.val (.long q1), .second, .val (.long q2), .second, .val (.int p3), .val (.int p4), .val (.int p5), .val (.int p6), .val (.int r1), .val (.int r3), .unset, .unset, .unset, .unset, .unset, .unset, .unset, .unset, .unset, .unset, .unset, .unset, .unset, .unset, .unset, .unset, .unset, .unset, .unset, .unset, .unset, .unset, .unset] [])) (fun _ k => XS.istore X3.here hx rfl (hb hby at_13) rfl (l' := #[.val (.long q1), .second, .val (.long q2), .second, .val (.int p3), .val (.int p4), .val (.int p5), .val (.int p6), .val (.int r1), .val (.int r3), .unset, .unset, .unset, .unset, .unset, .unset, .unset, .unset, .unset, .unset, .unset, .unset, .unset, .unset, .unset, .unset, .unset, .unset, .unset, .unset, .unset, .unset, .unset]) rfl k) ?_
  refine Go.via (S' := T3.setTop (mkF m 16 #[.val (.long q1), .second, .val (.long q2), .second, .val (.int p3), .val (.int p4), .val (.int p5), .val (.int p6), .val (.int r1), .val (.int r3), .unset, .unset, .unset, .unset, .unset, .unset, .unset, .unset, .unset, .unset, .unset, .unset, .unset, .unset, .unset, .unset, .unset, .unset, .unset, .unset, .unset, .unset, .unset] [(.long q1)])) (fun _ k => XS.lloadN X3.here hx rfl (hb hby at_15) rfl k) ?_
  refine Go.via (S' := T3.setTop (mkF m 18 #[.val (.long q1), .second, .val (.long q2), .second, .val (.int p3), .val (.int p4), .val (.int p5), .val (.int p6), .val (.int r1), .val (.int r3), .unset, .unset, .unset, .unset, .unset, .unset, .unset, .unset, .unset, .unset, .unset, .unset, .unset, .unset, .unset, .unset, .unset, .unset, .unset, .unset, .unset, .unset, .unset] [(.int (16 : Int32)), (.long q1)])) (fun _ k => XS.bipush X3.here hx rfl (hb hby at_16) k) ?_
  obtain ⟨_, _, ⟨T5, L5, k5, n5⟩, -, X5, ⟨Lc5, hQ5, l5, y5, z5⟩, st5⟩ := Jvm.LawKit.callS X3 hx (y := (⟨"com/example/amendatory/amendatory/ProvisionEqualsPinLaw", "ch", "(JI)C"⟩ : MethodName)) hown (mvT hZ (hw _ (List.mem_of_getElem? (i := 0) rfl))) (mvT hZ (hw _ (List.mem_of_getElem? (i := 1) rfl))) (mvT hZ (hw _ (List.mem_of_getElem? (i := 2) rfl))) (mvT hZ (hw _ (List.mem_of_getElem? (i := 3) rfl))) (by decide) (backOf (W := 0) (rm1 l Z a0 hw [] q1 (16 : Int32) h0 n0 Z0) hZ (hw _ (List.mem_of_getElem? (i := 3) rfl)) (hw _ (List.mem_of_getElem? (i := 2) rfl)) (by decide) (by decide)) (g := (mkF m 18 #[.val (.long q1), .second, .val (.long q2), .second, .val (.int p3), .val (.int p4), .val (.int p5), .val (.int p6), .val (.int r1), .val (.int r3), .unset, .unset, .unset, .unset, .unset, .unset, .unset, .unset, .unset, .unset, .unset, .unset, .unset, .unset, .unset, .unset, .unset, .unset, .unset, .unset, .unset, .unset, .unset] [(.int (16 : Int32)), (.long q1)])) rfl (by rw [hml]; rfl) (argsL := [(.long q1), (.int (16 : Int32))]) (rest := []) (lenOf pd_2 rfl) rfl (by show 2 * 0 + _ ≤ _; exact Nat.le_of_eq rfl) (hb hby at_18) (fun _ _ => ⟨rfl, e3, (by decide : 0 + 0 ≤ _), (by decide : 0 + 0 ≤ _)⟩)
  dsimp only [Pt.U, Pt.locs, Pt.cells, Pt.slots] at X5 l5 y5 z5 st5 hQ5
  subst l5 y5 z5
  obtain ⟨r5, rfl, N5q, e5, hr5⟩ := hQ5
  have N6 := Fr.app N4 N5q
  refine Go.via (S' := T5.setTop (mkF m 21 #[.val (.long q1), .second, .val (.long q2), .second, .val (.int p3), .val (.int p4), .val (.int p5), .val (.int p6), .val (.int r1), .val (.int r3), .unset, .unset, .unset, .unset, .unset, .unset, .unset, .unset, .unset, .unset, .unset, .unset, .unset, .unset, .unset, .unset, .unset, .unset, .unset, .unset, .unset, .unset, .unset] [(.int r5)])) (fun _ k => st5 _ k) ?_
  refine Go.via (S' := T5.setTop (mkF m 23 #[.val (.long q1), .second, .val (.long q2), .second, .val (.int p3), .val (.int p4), .val (.int p5), .val (.int p6), .val (.int r1), .val (.int r3), .val (.int r5), .unset, .unset, .unset, .unset, .unset, .unset, .unset, .unset, .unset, .unset, .unset, .unset, .unset, .unset, .unset, .unset, .unset, .unset, .unset, .unset, .unset, .unset] [])) (fun _ k => XS.istore X5.here hx rfl (hb hby at_21) rfl (l' := #[.val (.long q1), .second, .val (.long q2), .second, .val (.int p3), .val (.int p4), .val (.int p5), .val (.int p6), .val (.int r1), .val (.int r3), .val (.int r5), .unset, .unset, .unset, .unset, .unset, .unset, .unset, .unset, .unset, .unset, .unset, .unset, .unset, .unset, .unset, .unset, .unset, .unset, .unset, .unset, .unset, .unset]) rfl k) ?_
  refine Go.via (S' := T5.setTop (mkF m 24 #[.val (.long q1), .second, .val (.long q2), .second, .val (.int p3), .val (.int p4), .val (.int p5), .val (.int p6), .val (.int r1), .val (.int r3), .val (.int r5), .unset, .unset, .unset, .unset, .unset, .unset, .unset, .unset, .unset, .unset, .unset, .unset, .unset, .unset, .unset, .unset, .unset, .unset, .unset, .unset, .unset, .unset] [(.long q1)])) (fun _ k => XS.lloadN X5.here hx rfl (hb hby at_23) rfl k) ?_
  refine Go.via (S' := T5.setTop (mkF m 26 #[.val (.long q1), .second, .val (.long q2), .second, .val (.int p3), .val (.int p4), .val (.int p5), .val (.int p6), .val (.int r1), .val (.int r3), .val (.int r5), .unset, .unset, .unset, .unset, .unset, .unset, .unset, .unset, .unset, .unset, .unset, .unset, .unset, .unset, .unset, .unset, .unset, .unset, .unset, .unset, .unset, .unset] [(.int (24 : Int32)), (.long q1)])) (fun _ k => XS.bipush X5.here hx rfl (hb hby at_24) k) ?_
  obtain ⟨_, _, ⟨T7, L7, k7, n7⟩, -, X7, ⟨Lc7, hQ7, l7, y7, z7⟩, st7⟩ := Jvm.LawKit.callS X5 hx (y := (⟨"com/example/amendatory/amendatory/ProvisionEqualsPinLaw", "ch", "(JI)C"⟩ : MethodName)) hown (mvT hZ (hw _ (List.mem_of_getElem? (i := 0) rfl))) (mvT hZ (hw _ (List.mem_of_getElem? (i := 1) rfl))) (mvT hZ (hw _ (List.mem_of_getElem? (i := 2) rfl))) (mvT hZ (hw _ (List.mem_of_getElem? (i := 3) rfl))) (by decide) (backOf (W := 0) (rm1 l Z a0 hw [] q1 (24 : Int32) h0 n0 Z0) hZ (hw _ (List.mem_of_getElem? (i := 3) rfl)) (hw _ (List.mem_of_getElem? (i := 2) rfl)) (by decide) (by decide)) (g := (mkF m 26 #[.val (.long q1), .second, .val (.long q2), .second, .val (.int p3), .val (.int p4), .val (.int p5), .val (.int p6), .val (.int r1), .val (.int r3), .val (.int r5), .unset, .unset, .unset, .unset, .unset, .unset, .unset, .unset, .unset, .unset, .unset, .unset, .unset, .unset, .unset, .unset, .unset, .unset, .unset, .unset, .unset, .unset] [(.int (24 : Int32)), (.long q1)])) rfl (by rw [hml]; rfl) (argsL := [(.long q1), (.int (24 : Int32))]) (rest := []) (lenOf pd_2 rfl) rfl (by show 2 * 0 + _ ≤ _; exact Nat.le_of_eq rfl) (hb hby at_26) (fun _ _ => ⟨rfl, e5, (by decide : 0 + 0 ≤ _), (by decide : 0 + 0 ≤ _)⟩)
  dsimp only [Pt.U, Pt.locs, Pt.cells, Pt.slots] at X7 l7 y7 z7 st7 hQ7
  subst l7 y7 z7
  obtain ⟨r7, rfl, N7q, e7, hr7⟩ := hQ7
  have N8 := Fr.app N6 N7q
  refine Go.via (S' := T7.setTop (mkF m 29 #[.val (.long q1), .second, .val (.long q2), .second, .val (.int p3), .val (.int p4), .val (.int p5), .val (.int p6), .val (.int r1), .val (.int r3), .val (.int r5), .unset, .unset, .unset, .unset, .unset, .unset, .unset, .unset, .unset, .unset, .unset, .unset, .unset, .unset, .unset, .unset, .unset, .unset, .unset, .unset, .unset, .unset] [(.int r7)])) (fun _ k => st7 _ k) ?_
  refine Go.via (S' := T7.setTop (mkF m 31 #[.val (.long q1), .second, .val (.long q2), .second, .val (.int p3), .val (.int p4), .val (.int p5), .val (.int p6), .val (.int r1), .val (.int r3), .val (.int r5), .val (.int r7), .unset, .unset, .unset, .unset, .unset, .unset, .unset, .unset, .unset, .unset, .unset, .unset, .unset, .unset, .unset, .unset, .unset, .unset, .unset, .unset, .unset] [])) (fun _ k => XS.istore X7.here hx rfl (hb hby at_29) rfl (l' := #[.val (.long q1), .second, .val (.long q2), .second, .val (.int p3), .val (.int p4), .val (.int p5), .val (.int p6), .val (.int r1), .val (.int r3), .val (.int r5), .val (.int r7), .unset, .unset, .unset, .unset, .unset, .unset, .unset, .unset, .unset, .unset, .unset, .unset, .unset, .unset, .unset, .unset, .unset, .unset, .unset, .unset, .unset]) rfl k) ?_
  refine Go.via (S' := T7.setTop (mkF m 32 #[.val (.long q1), .second, .val (.long q2), .second, .val (.int p3), .val (.int p4), .val (.int p5), .val (.int p6), .val (.int r1), .val (.int r3), .val (.int r5), .val (.int r7), .unset, .unset, .unset, .unset, .unset, .unset, .unset, .unset, .unset, .unset, .unset, .unset, .unset, .unset, .unset, .unset, .unset, .unset, .unset, .unset, .unset] [(.long q1)])) (fun _ k => XS.lloadN X7.here hx rfl (hb hby at_31) rfl k) ?_
  refine Go.via (S' := T7.setTop (mkF m 34 #[.val (.long q1), .second, .val (.long q2), .second, .val (.int p3), .val (.int p4), .val (.int p5), .val (.int p6), .val (.int r1), .val (.int r3), .val (.int r5), .val (.int r7), .unset, .unset, .unset, .unset, .unset, .unset, .unset, .unset, .unset, .unset, .unset, .unset, .unset, .unset, .unset, .unset, .unset, .unset, .unset, .unset, .unset] [(.int (32 : Int32)), (.long q1)])) (fun _ k => XS.bipush X7.here hx rfl (hb hby at_32) k) ?_
  obtain ⟨_, _, ⟨T9, L9, k9, n9⟩, -, X9, ⟨Lc9, hQ9, l9, y9, z9⟩, st9⟩ := Jvm.LawKit.callS X7 hx (y := (⟨"com/example/amendatory/amendatory/ProvisionEqualsPinLaw", "ch", "(JI)C"⟩ : MethodName)) hown (mvT hZ (hw _ (List.mem_of_getElem? (i := 0) rfl))) (mvT hZ (hw _ (List.mem_of_getElem? (i := 1) rfl))) (mvT hZ (hw _ (List.mem_of_getElem? (i := 2) rfl))) (mvT hZ (hw _ (List.mem_of_getElem? (i := 3) rfl))) (by decide) (backOf (W := 0) (rm1 l Z a0 hw [] q1 (32 : Int32) h0 n0 Z0) hZ (hw _ (List.mem_of_getElem? (i := 3) rfl)) (hw _ (List.mem_of_getElem? (i := 2) rfl)) (by decide) (by decide)) (g := (mkF m 34 #[.val (.long q1), .second, .val (.long q2), .second, .val (.int p3), .val (.int p4), .val (.int p5), .val (.int p6), .val (.int r1), .val (.int r3), .val (.int r5), .val (.int r7), .unset, .unset, .unset, .unset, .unset, .unset, .unset, .unset, .unset, .unset, .unset, .unset, .unset, .unset, .unset, .unset, .unset, .unset, .unset, .unset, .unset] [(.int (32 : Int32)), (.long q1)])) rfl (by rw [hml]; rfl) (argsL := [(.long q1), (.int (32 : Int32))]) (rest := []) (lenOf pd_2 rfl) rfl (by show 2 * 0 + _ ≤ _; exact Nat.le_of_eq rfl) (hb hby at_34) (fun _ _ => ⟨rfl, e7, (by decide : 0 + 0 ≤ _), (by decide : 0 + 0 ≤ _)⟩)
  dsimp only [Pt.U, Pt.locs, Pt.cells, Pt.slots] at X9 l9 y9 z9 st9 hQ9
  subst l9 y9 z9
  obtain ⟨r9, rfl, N9q, e9, hr9⟩ := hQ9
  have N10 := Fr.app N8 N9q
  refine Go.via (S' := T9.setTop (mkF m 37 #[.val (.long q1), .second, .val (.long q2), .second, .val (.int p3), .val (.int p4), .val (.int p5), .val (.int p6), .val (.int r1), .val (.int r3), .val (.int r5), .val (.int r7), .unset, .unset, .unset, .unset, .unset, .unset, .unset, .unset, .unset, .unset, .unset, .unset, .unset, .unset, .unset, .unset, .unset, .unset, .unset, .unset, .unset] [(.int r9)])) (fun _ k => st9 _ k) ?_
  refine Go.via (S' := T9.setTop (mkF m 39 #[.val (.long q1), .second, .val (.long q2), .second, .val (.int p3), .val (.int p4), .val (.int p5), .val (.int p6), .val (.int r1), .val (.int r3), .val (.int r5), .val (.int r7), .val (.int r9), .unset, .unset, .unset, .unset, .unset, .unset, .unset, .unset, .unset, .unset, .unset, .unset, .unset, .unset, .unset, .unset, .unset, .unset, .unset, .unset] [])) (fun _ k => XS.istore X9.here hx rfl (hb hby at_37) rfl (l' := #[.val (.long q1), .second, .val (.long q2), .second, .val (.int p3), .val (.int p4), .val (.int p5), .val (.int p6), .val (.int r1), .val (.int r3), .val (.int r5), .val (.int r7), .val (.int r9), .unset, .unset, .unset, .unset, .unset, .unset, .unset, .unset, .unset, .unset, .unset, .unset, .unset, .unset, .unset, .unset, .unset, .unset, .unset, .unset]) rfl k) ?_
  refine Go.via (S' := T9.setTop (mkF m 40 #[.val (.long q1), .second, .val (.long q2), .second, .val (.int p3), .val (.int p4), .val (.int p5), .val (.int p6), .val (.int r1), .val (.int r3), .val (.int r5), .val (.int r7), .val (.int r9), .unset, .unset, .unset, .unset, .unset, .unset, .unset, .unset, .unset, .unset, .unset, .unset, .unset, .unset, .unset, .unset, .unset, .unset, .unset, .unset] [(.long q1)])) (fun _ k => XS.lloadN X9.here hx rfl (hb hby at_39) rfl k) ?_
  refine Go.via (S' := T9.setTop (mkF m 42 #[.val (.long q1), .second, .val (.long q2), .second, .val (.int p3), .val (.int p4), .val (.int p5), .val (.int p6), .val (.int r1), .val (.int r3), .val (.int r5), .val (.int r7), .val (.int r9), .unset, .unset, .unset, .unset, .unset, .unset, .unset, .unset, .unset, .unset, .unset, .unset, .unset, .unset, .unset, .unset, .unset, .unset, .unset, .unset] [(.int (40 : Int32)), (.long q1)])) (fun _ k => XS.bipush X9.here hx rfl (hb hby at_40) k) ?_
  obtain ⟨_, _, ⟨T11, L11, k11, n11⟩, -, X11, ⟨Lc11, hQ11, l11, y11, z11⟩, st11⟩ := Jvm.LawKit.callS X9 hx (y := (⟨"com/example/amendatory/amendatory/ProvisionEqualsPinLaw", "ch", "(JI)C"⟩ : MethodName)) hown (mvT hZ (hw _ (List.mem_of_getElem? (i := 0) rfl))) (mvT hZ (hw _ (List.mem_of_getElem? (i := 1) rfl))) (mvT hZ (hw _ (List.mem_of_getElem? (i := 2) rfl))) (mvT hZ (hw _ (List.mem_of_getElem? (i := 3) rfl))) (by decide) (backOf (W := 0) (rm1 l Z a0 hw [] q1 (40 : Int32) h0 n0 Z0) hZ (hw _ (List.mem_of_getElem? (i := 3) rfl)) (hw _ (List.mem_of_getElem? (i := 2) rfl)) (by decide) (by decide)) (g := (mkF m 42 #[.val (.long q1), .second, .val (.long q2), .second, .val (.int p3), .val (.int p4), .val (.int p5), .val (.int p6), .val (.int r1), .val (.int r3), .val (.int r5), .val (.int r7), .val (.int r9), .unset, .unset, .unset, .unset, .unset, .unset, .unset, .unset, .unset, .unset, .unset, .unset, .unset, .unset, .unset, .unset, .unset, .unset, .unset, .unset] [(.int (40 : Int32)), (.long q1)])) rfl (by rw [hml]; rfl) (argsL := [(.long q1), (.int (40 : Int32))]) (rest := []) (lenOf pd_2 rfl) rfl (by show 2 * 0 + _ ≤ _; exact Nat.le_of_eq rfl) (hb hby at_42) (fun _ _ => ⟨rfl, e9, (by decide : 0 + 0 ≤ _), (by decide : 0 + 0 ≤ _)⟩)
  dsimp only [Pt.U, Pt.locs, Pt.cells, Pt.slots] at X11 l11 y11 z11 st11 hQ11
  subst l11 y11 z11
  obtain ⟨r11, rfl, N11q, e11, hr11⟩ := hQ11
  have N12 := Fr.app N10 N11q
  refine Go.via (S' := T11.setTop (mkF m 45 #[.val (.long q1), .second, .val (.long q2), .second, .val (.int p3), .val (.int p4), .val (.int p5), .val (.int p6), .val (.int r1), .val (.int r3), .val (.int r5), .val (.int r7), .val (.int r9), .unset, .unset, .unset, .unset, .unset, .unset, .unset, .unset, .unset, .unset, .unset, .unset, .unset, .unset, .unset, .unset, .unset, .unset, .unset, .unset] [(.int r11)])) (fun _ k => st11 _ k) ?_
  refine Go.via (S' := T11.setTop (mkF m 47 #[.val (.long q1), .second, .val (.long q2), .second, .val (.int p3), .val (.int p4), .val (.int p5), .val (.int p6), .val (.int r1), .val (.int r3), .val (.int r5), .val (.int r7), .val (.int r9), .val (.int r11), .unset, .unset, .unset, .unset, .unset, .unset, .unset, .unset, .unset, .unset, .unset, .unset, .unset, .unset, .unset, .unset, .unset, .unset, .unset] [])) (fun _ k => XS.istore X11.here hx rfl (hb hby at_45) rfl (l' := #[.val (.long q1), .second, .val (.long q2), .second, .val (.int p3), .val (.int p4), .val (.int p5), .val (.int p6), .val (.int r1), .val (.int r3), .val (.int r5), .val (.int r7), .val (.int r9), .val (.int r11), .unset, .unset, .unset, .unset, .unset, .unset, .unset, .unset, .unset, .unset, .unset, .unset, .unset, .unset, .unset, .unset, .unset, .unset, .unset]) rfl k) ?_
  suffices J59 : ∀ (k1 : Int32), Go p e below s (Q0 Z q1 q2 p3 p4 p5 p6 G1 h0 n0) room_1.cells room_1.slots (T11.setTop (mkF m 59 #[.val (.long q1), .second, .val (.long q2), .second, .val (.int p3), .val (.int p4), .val (.int p5), .val (.int p6), .val (.int r1), .val (.int r3), .val (.int r5), .val (.int r7), .val (.int r9), .val (.int r11), .unset, .unset, .unset, .unset, .unset, .unset, .unset, .unset, .unset, .unset, .unset, .unset, .unset, .unset, .unset, .unset, .unset, .unset, .unset] [(.int k1)])) by
    refine Go.via (S' := T11.setTop (mkF m 49 #[.val (.long q1), .second, .val (.long q2), .second, .val (.int p3), .val (.int p4), .val (.int p5), .val (.int p6), .val (.int r1), .val (.int r3), .val (.int r5), .val (.int r7), .val (.int r9), .val (.int r11), .unset, .unset, .unset, .unset, .unset, .unset, .unset, .unset, .unset, .unset, .unset, .unset, .unset, .unset, .unset, .unset, .unset, .unset, .unset] [(.int p3)])) (fun _ k => XS.iload X11.here hx rfl (hb hby at_47) rfl k) ?_
    refine Go.via (S' := T11.setTop (mkF m 50 #[.val (.long q1), .second, .val (.long q2), .second, .val (.int p3), .val (.int p4), .val (.int p5), .val (.int p6), .val (.int r1), .val (.int r3), .val (.int r5), .val (.int r7), .val (.int r9), .val (.int r11), .unset, .unset, .unset, .unset, .unset, .unset, .unset, .unset, .unset, .unset, .unset, .unset, .unset, .unset, .unset, .unset, .unset, .unset, .unset] [(.int (1 : Int32)), (.int p3)])) (fun _ k => XS.iconst X11.here hx rfl (hb hby at_49) k) ?_
    refine Go.via (S' := T11.setTop (mkF m 51 #[.val (.long q1), .second, .val (.long q2), .second, .val (.int p3), .val (.int p4), .val (.int p5), .val (.int p6), .val (.int r1), .val (.int r3), .val (.int r5), .val (.int r7), .val (.int r9), .val (.int r11), .unset, .unset, .unset, .unset, .unset, .unset, .unset, .unset, .unset, .unset, .unset, .unset, .unset, .unset, .unset, .unset, .unset, .unset, .unset] [(.int (p3 &&& (1 : Int32)))])) (fun _ k => XS.iand X11.here hx rfl (hb hby at_50) rfl k) ?_
    rcases Decidable.em ((p3 &&& (1 : Int32)) = (0 : Int32)) with hc51 | hc51
    · refine Go.via (S' := T11.setTop (mkF m 58 #[.val (.long q1), .second, .val (.long q2), .second, .val (.int p3), .val (.int p4), .val (.int p5), .val (.int p6), .val (.int r1), .val (.int r3), .val (.int r5), .val (.int r7), .val (.int r9), .val (.int r11), .unset, .unset, .unset, .unset, .unset, .unset, .unset, .unset, .unset, .unset, .unset, .unset, .unset, .unset, .unset, .unset, .unset, .unset, .unset] [])) (fun _ k => XS.ifYes X11.here hx rfl (pc0 := 51) (pc' := 58) rfl (hb hby at_51) rfl ((if0 _ _).trans (teq hc51).1) (by decide) (by decide) k) ?_
      refine Go.via (S' := T11.setTop (mkF m 59 #[.val (.long q1), .second, .val (.long q2), .second, .val (.int p3), .val (.int p4), .val (.int p5), .val (.int p6), .val (.int r1), .val (.int r3), .val (.int r5), .val (.int r7), .val (.int r9), .val (.int r11), .unset, .unset, .unset, .unset, .unset, .unset, .unset, .unset, .unset, .unset, .unset, .unset, .unset, .unset, .unset, .unset, .unset, .unset, .unset] [(.int (0 : Int32))])) (fun _ k => XS.iconst X11.here hx rfl (hb hby at_58) k) ?_
      exact J59 _
    · refine Go.via (S' := T11.setTop (mkF m 54 #[.val (.long q1), .second, .val (.long q2), .second, .val (.int p3), .val (.int p4), .val (.int p5), .val (.int p6), .val (.int r1), .val (.int r3), .val (.int r5), .val (.int r7), .val (.int r9), .val (.int r11), .unset, .unset, .unset, .unset, .unset, .unset, .unset, .unset, .unset, .unset, .unset, .unset, .unset, .unset, .unset, .unset, .unset, .unset, .unset] [])) (fun _ k => XS.ifNo X11.here hx rfl (hb hby at_51) rfl ((if0 _ _).trans (feq hc51).1) k) ?_
      refine Go.via (S' := T11.setTop (mkF m 55 #[.val (.long q1), .second, .val (.long q2), .second, .val (.int p3), .val (.int p4), .val (.int p5), .val (.int p6), .val (.int r1), .val (.int r3), .val (.int r5), .val (.int r7), .val (.int r9), .val (.int r11), .unset, .unset, .unset, .unset, .unset, .unset, .unset, .unset, .unset, .unset, .unset, .unset, .unset, .unset, .unset, .unset, .unset, .unset, .unset] [(.int (1 : Int32))])) (fun _ k => XS.iconst X11.here hx rfl (hb hby at_54) k) ?_
      refine Go.via (S' := T11.setTop (mkF m 59 #[.val (.long q1), .second, .val (.long q2), .second, .val (.int p3), .val (.int p4), .val (.int p5), .val (.int p6), .val (.int r1), .val (.int r3), .val (.int r5), .val (.int r7), .val (.int r9), .val (.int r11), .unset, .unset, .unset, .unset, .unset, .unset, .unset, .unset, .unset, .unset, .unset, .unset, .unset, .unset, .unset, .unset, .unset, .unset, .unset] [(.int (1 : Int32))])) (fun _ k => XS.goto X11.here hx rfl (pc0 := 55) (pc' := 59) rfl (hb hby at_55) (by decide) (by decide) k) ?_
      exact J59 _
  intro k1
  refine Go.via (S' := T11.setTop (mkF m 61 #[.val (.long q1), .second, .val (.long q2), .second, .val (.int p3), .val (.int p4), .val (.int p5), .val (.int p6), .val (.int r1), .val (.int r3), .val (.int r5), .val (.int r7), .val (.int r9), .val (.int r11), .val (.int k1), .unset, .unset, .unset, .unset, .unset, .unset, .unset, .unset, .unset, .unset, .unset, .unset, .unset, .unset, .unset, .unset, .unset, .unset] [])) (fun _ k => XS.istore X11.here hx rfl (hb hby at_59) rfl (l' := #[.val (.long q1), .second, .val (.long q2), .second, .val (.int p3), .val (.int p4), .val (.int p5), .val (.int p6), .val (.int r1), .val (.int r3), .val (.int r5), .val (.int r7), .val (.int r9), .val (.int r11), .val (.int k1), .unset, .unset, .unset, .unset, .unset, .unset, .unset, .unset, .unset, .unset, .unset, .unset, .unset, .unset, .unset, .unset, .unset, .unset]) rfl k) ?_
  suffices J73 : ∀ (k2 : Int32), Go p e below s (Q0 Z q1 q2 p3 p4 p5 p6 G1 h0 n0) room_1.cells room_1.slots (T11.setTop (mkF m 73 #[.val (.long q1), .second, .val (.long q2), .second, .val (.int p3), .val (.int p4), .val (.int p5), .val (.int p6), .val (.int r1), .val (.int r3), .val (.int r5), .val (.int r7), .val (.int r9), .val (.int r11), .val (.int k1), .unset, .unset, .unset, .unset, .unset, .unset, .unset, .unset, .unset, .unset, .unset, .unset, .unset, .unset, .unset, .unset, .unset, .unset] [(.int k2)])) by
    refine Go.via (S' := T11.setTop (mkF m 63 #[.val (.long q1), .second, .val (.long q2), .second, .val (.int p3), .val (.int p4), .val (.int p5), .val (.int p6), .val (.int r1), .val (.int r3), .val (.int r5), .val (.int r7), .val (.int r9), .val (.int r11), .val (.int k1), .unset, .unset, .unset, .unset, .unset, .unset, .unset, .unset, .unset, .unset, .unset, .unset, .unset, .unset, .unset, .unset, .unset, .unset] [(.int p3)])) (fun _ k => XS.iload X11.here hx rfl (hb hby at_61) rfl k) ?_
    refine Go.via (S' := T11.setTop (mkF m 64 #[.val (.long q1), .second, .val (.long q2), .second, .val (.int p3), .val (.int p4), .val (.int p5), .val (.int p6), .val (.int r1), .val (.int r3), .val (.int r5), .val (.int r7), .val (.int r9), .val (.int r11), .val (.int k1), .unset, .unset, .unset, .unset, .unset, .unset, .unset, .unset, .unset, .unset, .unset, .unset, .unset, .unset, .unset, .unset, .unset, .unset] [(.int (2 : Int32)), (.int p3)])) (fun _ k => XS.iconst X11.here hx rfl (hb hby at_63) k) ?_
    refine Go.via (S' := T11.setTop (mkF m 65 #[.val (.long q1), .second, .val (.long q2), .second, .val (.int p3), .val (.int p4), .val (.int p5), .val (.int p6), .val (.int r1), .val (.int r3), .val (.int r5), .val (.int r7), .val (.int r9), .val (.int r11), .val (.int k1), .unset, .unset, .unset, .unset, .unset, .unset, .unset, .unset, .unset, .unset, .unset, .unset, .unset, .unset, .unset, .unset, .unset, .unset] [(.int (p3 &&& (2 : Int32)))])) (fun _ k => XS.iand X11.here hx rfl (hb hby at_64) rfl k) ?_
    rcases Decidable.em ((p3 &&& (2 : Int32)) = (0 : Int32)) with hc65 | hc65
    · refine Go.via (S' := T11.setTop (mkF m 72 #[.val (.long q1), .second, .val (.long q2), .second, .val (.int p3), .val (.int p4), .val (.int p5), .val (.int p6), .val (.int r1), .val (.int r3), .val (.int r5), .val (.int r7), .val (.int r9), .val (.int r11), .val (.int k1), .unset, .unset, .unset, .unset, .unset, .unset, .unset, .unset, .unset, .unset, .unset, .unset, .unset, .unset, .unset, .unset, .unset, .unset] [])) (fun _ k => XS.ifYes X11.here hx rfl (pc0 := 65) (pc' := 72) rfl (hb hby at_65) rfl ((if0 _ _).trans (teq hc65).1) (by decide) (by decide) k) ?_
      refine Go.via (S' := T11.setTop (mkF m 73 #[.val (.long q1), .second, .val (.long q2), .second, .val (.int p3), .val (.int p4), .val (.int p5), .val (.int p6), .val (.int r1), .val (.int r3), .val (.int r5), .val (.int r7), .val (.int r9), .val (.int r11), .val (.int k1), .unset, .unset, .unset, .unset, .unset, .unset, .unset, .unset, .unset, .unset, .unset, .unset, .unset, .unset, .unset, .unset, .unset, .unset] [(.int (0 : Int32))])) (fun _ k => XS.iconst X11.here hx rfl (hb hby at_72) k) ?_
      exact J73 _
    · refine Go.via (S' := T11.setTop (mkF m 68 #[.val (.long q1), .second, .val (.long q2), .second, .val (.int p3), .val (.int p4), .val (.int p5), .val (.int p6), .val (.int r1), .val (.int r3), .val (.int r5), .val (.int r7), .val (.int r9), .val (.int r11), .val (.int k1), .unset, .unset, .unset, .unset, .unset, .unset, .unset, .unset, .unset, .unset, .unset, .unset, .unset, .unset, .unset, .unset, .unset, .unset] [])) (fun _ k => XS.ifNo X11.here hx rfl (hb hby at_65) rfl ((if0 _ _).trans (feq hc65).1) k) ?_
      refine Go.via (S' := T11.setTop (mkF m 69 #[.val (.long q1), .second, .val (.long q2), .second, .val (.int p3), .val (.int p4), .val (.int p5), .val (.int p6), .val (.int r1), .val (.int r3), .val (.int r5), .val (.int r7), .val (.int r9), .val (.int r11), .val (.int k1), .unset, .unset, .unset, .unset, .unset, .unset, .unset, .unset, .unset, .unset, .unset, .unset, .unset, .unset, .unset, .unset, .unset, .unset] [(.int (1 : Int32))])) (fun _ k => XS.iconst X11.here hx rfl (hb hby at_68) k) ?_
      refine Go.via (S' := T11.setTop (mkF m 73 #[.val (.long q1), .second, .val (.long q2), .second, .val (.int p3), .val (.int p4), .val (.int p5), .val (.int p6), .val (.int r1), .val (.int r3), .val (.int r5), .val (.int r7), .val (.int r9), .val (.int r11), .val (.int k1), .unset, .unset, .unset, .unset, .unset, .unset, .unset, .unset, .unset, .unset, .unset, .unset, .unset, .unset, .unset, .unset, .unset, .unset] [(.int (1 : Int32))])) (fun _ k => XS.goto X11.here hx rfl (pc0 := 69) (pc' := 73) rfl (hb hby at_69) (by decide) (by decide) k) ?_
      exact J73 _
  intro k2
  refine Go.via (S' := T11.setTop (mkF m 75 #[.val (.long q1), .second, .val (.long q2), .second, .val (.int p3), .val (.int p4), .val (.int p5), .val (.int p6), .val (.int r1), .val (.int r3), .val (.int r5), .val (.int r7), .val (.int r9), .val (.int r11), .val (.int k1), .val (.int k2), .unset, .unset, .unset, .unset, .unset, .unset, .unset, .unset, .unset, .unset, .unset, .unset, .unset, .unset, .unset, .unset, .unset] [])) (fun _ k => XS.istore X11.here hx rfl (hb hby at_73) rfl (l' := #[.val (.long q1), .second, .val (.long q2), .second, .val (.int p3), .val (.int p4), .val (.int p5), .val (.int p6), .val (.int r1), .val (.int r3), .val (.int r5), .val (.int r7), .val (.int r9), .val (.int r11), .val (.int k1), .val (.int k2), .unset, .unset, .unset, .unset, .unset, .unset, .unset, .unset, .unset, .unset, .unset, .unset, .unset, .unset, .unset, .unset, .unset]) rfl k) ?_
  suffices J87 : ∀ (k3 : Int32), Go p e below s (Q0 Z q1 q2 p3 p4 p5 p6 G1 h0 n0) room_1.cells room_1.slots (T11.setTop (mkF m 87 #[.val (.long q1), .second, .val (.long q2), .second, .val (.int p3), .val (.int p4), .val (.int p5), .val (.int p6), .val (.int r1), .val (.int r3), .val (.int r5), .val (.int r7), .val (.int r9), .val (.int r11), .val (.int k1), .val (.int k2), .unset, .unset, .unset, .unset, .unset, .unset, .unset, .unset, .unset, .unset, .unset, .unset, .unset, .unset, .unset, .unset, .unset] [(.int k3)])) by
    refine Go.via (S' := T11.setTop (mkF m 77 #[.val (.long q1), .second, .val (.long q2), .second, .val (.int p3), .val (.int p4), .val (.int p5), .val (.int p6), .val (.int r1), .val (.int r3), .val (.int r5), .val (.int r7), .val (.int r9), .val (.int r11), .val (.int k1), .val (.int k2), .unset, .unset, .unset, .unset, .unset, .unset, .unset, .unset, .unset, .unset, .unset, .unset, .unset, .unset, .unset, .unset, .unset] [(.int p3)])) (fun _ k => XS.iload X11.here hx rfl (hb hby at_75) rfl k) ?_
    refine Go.via (S' := T11.setTop (mkF m 78 #[.val (.long q1), .second, .val (.long q2), .second, .val (.int p3), .val (.int p4), .val (.int p5), .val (.int p6), .val (.int r1), .val (.int r3), .val (.int r5), .val (.int r7), .val (.int r9), .val (.int r11), .val (.int k1), .val (.int k2), .unset, .unset, .unset, .unset, .unset, .unset, .unset, .unset, .unset, .unset, .unset, .unset, .unset, .unset, .unset, .unset, .unset] [(.int (4 : Int32)), (.int p3)])) (fun _ k => XS.iconst X11.here hx rfl (hb hby at_77) k) ?_
    refine Go.via (S' := T11.setTop (mkF m 79 #[.val (.long q1), .second, .val (.long q2), .second, .val (.int p3), .val (.int p4), .val (.int p5), .val (.int p6), .val (.int r1), .val (.int r3), .val (.int r5), .val (.int r7), .val (.int r9), .val (.int r11), .val (.int k1), .val (.int k2), .unset, .unset, .unset, .unset, .unset, .unset, .unset, .unset, .unset, .unset, .unset, .unset, .unset, .unset, .unset, .unset, .unset] [(.int (p3 &&& (4 : Int32)))])) (fun _ k => XS.iand X11.here hx rfl (hb hby at_78) rfl k) ?_
    rcases Decidable.em ((p3 &&& (4 : Int32)) = (0 : Int32)) with hc79 | hc79
    · refine Go.via (S' := T11.setTop (mkF m 86 #[.val (.long q1), .second, .val (.long q2), .second, .val (.int p3), .val (.int p4), .val (.int p5), .val (.int p6), .val (.int r1), .val (.int r3), .val (.int r5), .val (.int r7), .val (.int r9), .val (.int r11), .val (.int k1), .val (.int k2), .unset, .unset, .unset, .unset, .unset, .unset, .unset, .unset, .unset, .unset, .unset, .unset, .unset, .unset, .unset, .unset, .unset] [])) (fun _ k => XS.ifYes X11.here hx rfl (pc0 := 79) (pc' := 86) rfl (hb hby at_79) rfl ((if0 _ _).trans (teq hc79).1) (by decide) (by decide) k) ?_
      refine Go.via (S' := T11.setTop (mkF m 87 #[.val (.long q1), .second, .val (.long q2), .second, .val (.int p3), .val (.int p4), .val (.int p5), .val (.int p6), .val (.int r1), .val (.int r3), .val (.int r5), .val (.int r7), .val (.int r9), .val (.int r11), .val (.int k1), .val (.int k2), .unset, .unset, .unset, .unset, .unset, .unset, .unset, .unset, .unset, .unset, .unset, .unset, .unset, .unset, .unset, .unset, .unset] [(.int (0 : Int32))])) (fun _ k => XS.iconst X11.here hx rfl (hb hby at_86) k) ?_
      exact J87 _
    · refine Go.via (S' := T11.setTop (mkF m 82 #[.val (.long q1), .second, .val (.long q2), .second, .val (.int p3), .val (.int p4), .val (.int p5), .val (.int p6), .val (.int r1), .val (.int r3), .val (.int r5), .val (.int r7), .val (.int r9), .val (.int r11), .val (.int k1), .val (.int k2), .unset, .unset, .unset, .unset, .unset, .unset, .unset, .unset, .unset, .unset, .unset, .unset, .unset, .unset, .unset, .unset, .unset] [])) (fun _ k => XS.ifNo X11.here hx rfl (hb hby at_79) rfl ((if0 _ _).trans (feq hc79).1) k) ?_
      refine Go.via (S' := T11.setTop (mkF m 83 #[.val (.long q1), .second, .val (.long q2), .second, .val (.int p3), .val (.int p4), .val (.int p5), .val (.int p6), .val (.int r1), .val (.int r3), .val (.int r5), .val (.int r7), .val (.int r9), .val (.int r11), .val (.int k1), .val (.int k2), .unset, .unset, .unset, .unset, .unset, .unset, .unset, .unset, .unset, .unset, .unset, .unset, .unset, .unset, .unset, .unset, .unset] [(.int (1 : Int32))])) (fun _ k => XS.iconst X11.here hx rfl (hb hby at_82) k) ?_
      refine Go.via (S' := T11.setTop (mkF m 87 #[.val (.long q1), .second, .val (.long q2), .second, .val (.int p3), .val (.int p4), .val (.int p5), .val (.int p6), .val (.int r1), .val (.int r3), .val (.int r5), .val (.int r7), .val (.int r9), .val (.int r11), .val (.int k1), .val (.int k2), .unset, .unset, .unset, .unset, .unset, .unset, .unset, .unset, .unset, .unset, .unset, .unset, .unset, .unset, .unset, .unset, .unset] [(.int (1 : Int32))])) (fun _ k => XS.goto X11.here hx rfl (pc0 := 83) (pc' := 87) rfl (hb hby at_83) (by decide) (by decide) k) ?_
      exact J87 _
  intro k3
  refine Go.via (S' := T11.setTop (mkF m 89 #[.val (.long q1), .second, .val (.long q2), .second, .val (.int p3), .val (.int p4), .val (.int p5), .val (.int p6), .val (.int r1), .val (.int r3), .val (.int r5), .val (.int r7), .val (.int r9), .val (.int r11), .val (.int k1), .val (.int k2), .val (.int k3), .unset, .unset, .unset, .unset, .unset, .unset, .unset, .unset, .unset, .unset, .unset, .unset, .unset, .unset, .unset, .unset] [])) (fun _ k => XS.istore X11.here hx rfl (hb hby at_87) rfl (l' := #[.val (.long q1), .second, .val (.long q2), .second, .val (.int p3), .val (.int p4), .val (.int p5), .val (.int p6), .val (.int r1), .val (.int r3), .val (.int r5), .val (.int r7), .val (.int r9), .val (.int r11), .val (.int k1), .val (.int k2), .val (.int k3), .unset, .unset, .unset, .unset, .unset, .unset, .unset, .unset, .unset, .unset, .unset, .unset, .unset, .unset, .unset, .unset]) rfl k) ?_
  suffices J104 : ∀ (T13 : State) (h13 : Heap) (lo13 : List Loc) (m0 : Int32) (X13 : Stand p l e room_1 s m #[(.long q1), (.long q2), (.int p3), (.int p4), (.int p5), (.int p6)] below meth c T13 lo13 0 0) (e13 : T13.heap = h13) (N13 : Fr n0 lo13) (z13 : n0 ≤ h13.size) (fk13_0 : Old Z n0 h13) (hm0 : own_ch m0), Go p e below s (Q0 Z q1 q2 p3 p4 p5 p6 G1 h0 n0) room_1.cells room_1.slots (T13.setTop (mkF m 104 #[.val (.long q1), .second, .val (.long q2), .second, .val (.int p3), .val (.int p4), .val (.int p5), .val (.int p6), .val (.int r1), .val (.int r3), .val (.int r5), .val (.int r7), .val (.int r9), .val (.int r11), .val (.int k1), .val (.int k2), .val (.int k3), .unset, .unset, .unset, .unset, .unset, .unset, .unset, .unset, .unset, .unset, .unset, .unset, .unset, .unset, .unset, .unset] [(.int m0)])) by
    refine Go.via (S' := T11.setTop (mkF m 91 #[.val (.long q1), .second, .val (.long q2), .second, .val (.int p3), .val (.int p4), .val (.int p5), .val (.int p6), .val (.int r1), .val (.int r3), .val (.int r5), .val (.int r7), .val (.int r9), .val (.int r11), .val (.int k1), .val (.int k2), .val (.int k3), .unset, .unset, .unset, .unset, .unset, .unset, .unset, .unset, .unset, .unset, .unset, .unset, .unset, .unset, .unset, .unset] [(.int k1)])) (fun _ k => XS.iload X11.here hx rfl (hb hby at_89) rfl k) ?_
    rcases Decidable.em (k1 = (0 : Int32)) with hc91 | hc91
    · refine Go.via (S' := T11.setTop (mkF m 99 #[.val (.long q1), .second, .val (.long q2), .second, .val (.int p3), .val (.int p4), .val (.int p5), .val (.int p6), .val (.int r1), .val (.int r3), .val (.int r5), .val (.int r7), .val (.int r9), .val (.int r11), .val (.int k1), .val (.int k2), .val (.int k3), .unset, .unset, .unset, .unset, .unset, .unset, .unset, .unset, .unset, .unset, .unset, .unset, .unset, .unset, .unset, .unset] [])) (fun _ k => XS.ifYes X11.here hx rfl (pc0 := 91) (pc' := 99) rfl (hb hby at_91) rfl ((if0 _ _).trans (teq hc91).1) (by decide) (by decide) k) ?_
      refine Go.via (S' := T11.setTop (mkF m 100 #[.val (.long q1), .second, .val (.long q2), .second, .val (.int p3), .val (.int p4), .val (.int p5), .val (.int p6), .val (.int r1), .val (.int r3), .val (.int r5), .val (.int r7), .val (.int r9), .val (.int r11), .val (.int k1), .val (.int k2), .val (.int k3), .unset, .unset, .unset, .unset, .unset, .unset, .unset, .unset, .unset, .unset, .unset, .unset, .unset, .unset, .unset, .unset] [(.long q2)])) (fun _ k => XS.lloadN X11.here hx rfl (hb hby at_99) rfl k) ?_
      refine Go.via (S' := T11.setTop (mkF m 101 #[.val (.long q1), .second, .val (.long q2), .second, .val (.int p3), .val (.int p4), .val (.int p5), .val (.int p6), .val (.int r1), .val (.int r3), .val (.int r5), .val (.int r7), .val (.int r9), .val (.int r11), .val (.int k1), .val (.int k2), .val (.int k3), .unset, .unset, .unset, .unset, .unset, .unset, .unset, .unset, .unset, .unset, .unset, .unset, .unset, .unset, .unset, .unset] [(.int (0 : Int32)), (.long q2)])) (fun _ k => XS.iconst X11.here hx rfl (hb hby at_100) k) ?_
      obtain ⟨_, _, ⟨T14, L14, k14, n14⟩, -, X14, ⟨Lc14, hQ14, l14, y14, z14⟩, st14⟩ := Jvm.LawKit.callS X11 hx (y := (⟨"com/example/amendatory/amendatory/ProvisionEqualsPinLaw", "ch", "(JI)C"⟩ : MethodName)) hown (mvT hZ (hw _ (List.mem_of_getElem? (i := 0) rfl))) (mvT hZ (hw _ (List.mem_of_getElem? (i := 1) rfl))) (mvT hZ (hw _ (List.mem_of_getElem? (i := 2) rfl))) (mvT hZ (hw _ (List.mem_of_getElem? (i := 3) rfl))) (by decide) (backOf (W := 0) (rm1 l Z a0 hw [] q2 (0 : Int32) h0 n0 Z0) hZ (hw _ (List.mem_of_getElem? (i := 3) rfl)) (hw _ (List.mem_of_getElem? (i := 2) rfl)) (by decide) (by decide)) (g := (mkF m 101 #[.val (.long q1), .second, .val (.long q2), .second, .val (.int p3), .val (.int p4), .val (.int p5), .val (.int p6), .val (.int r1), .val (.int r3), .val (.int r5), .val (.int r7), .val (.int r9), .val (.int r11), .val (.int k1), .val (.int k2), .val (.int k3), .unset, .unset, .unset, .unset, .unset, .unset, .unset, .unset, .unset, .unset, .unset, .unset, .unset, .unset, .unset, .unset] [(.int (0 : Int32)), (.long q2)])) rfl (by rw [hml]; rfl) (argsL := [(.long q2), (.int (0 : Int32))]) (rest := []) (lenOf pd_2 rfl) rfl (by show 2 * 0 + _ ≤ _; exact Nat.le_of_eq rfl) (hb hby at_101) (fun _ _ => ⟨rfl, e11, (by decide : 0 + 0 ≤ _), (by decide : 0 + 0 ≤ _)⟩)
      dsimp only [Pt.U, Pt.locs, Pt.cells, Pt.slots] at X14 l14 y14 z14 st14 hQ14
      subst l14 y14 z14
      obtain ⟨r14, rfl, N14q, e14, hr14⟩ := hQ14
      have N15 := Fr.app N12 N14q
      refine Go.via (S' := T14.setTop (mkF m 104 #[.val (.long q1), .second, .val (.long q2), .second, .val (.int p3), .val (.int p4), .val (.int p5), .val (.int p6), .val (.int r1), .val (.int r3), .val (.int r5), .val (.int r7), .val (.int r9), .val (.int r11), .val (.int k1), .val (.int k2), .val (.int k3), .unset, .unset, .unset, .unset, .unset, .unset, .unset, .unset, .unset, .unset, .unset, .unset, .unset, .unset, .unset, .unset] [(.int r14)])) (fun _ k => st14 _ k) ?_
      exact J104 T14 h0 _ r14 (X14.more (by decide) (by decide)) e14 N15 Z0 X00 hr14
    · refine Go.via (S' := T11.setTop (mkF m 94 #[.val (.long q1), .second, .val (.long q2), .second, .val (.int p3), .val (.int p4), .val (.int p5), .val (.int p6), .val (.int r1), .val (.int r3), .val (.int r5), .val (.int r7), .val (.int r9), .val (.int r11), .val (.int k1), .val (.int k2), .val (.int k3), .unset, .unset, .unset, .unset, .unset, .unset, .unset, .unset, .unset, .unset, .unset, .unset, .unset, .unset, .unset, .unset] [])) (fun _ k => XS.ifNo X11.here hx rfl (hb hby at_91) rfl ((if0 _ _).trans (feq hc91).1) k) ?_
      refine Go.via (S' := T11.setTop (mkF m 96 #[.val (.long q1), .second, .val (.long q2), .second, .val (.int p3), .val (.int p4), .val (.int p5), .val (.int p6), .val (.int r1), .val (.int r3), .val (.int r5), .val (.int r7), .val (.int r9), .val (.int r11), .val (.int k1), .val (.int k2), .val (.int k3), .unset, .unset, .unset, .unset, .unset, .unset, .unset, .unset, .unset, .unset, .unset, .unset, .unset, .unset, .unset, .unset] [(.int r1)])) (fun _ k => XS.iload X11.here hx rfl (hb hby at_94) rfl k) ?_
      refine Go.via (S' := T11.setTop (mkF m 104 #[.val (.long q1), .second, .val (.long q2), .second, .val (.int p3), .val (.int p4), .val (.int p5), .val (.int p6), .val (.int r1), .val (.int r3), .val (.int r5), .val (.int r7), .val (.int r9), .val (.int r11), .val (.int k1), .val (.int k2), .val (.int k3), .unset, .unset, .unset, .unset, .unset, .unset, .unset, .unset, .unset, .unset, .unset, .unset, .unset, .unset, .unset, .unset] [(.int r1)])) (fun _ k => XS.goto X11.here hx rfl (pc0 := 96) (pc' := 104) rfl (hb hby at_96) (by decide) (by decide) k) ?_
      exact J104 T11 h0 _ r1 (X11.more (by decide) (by decide)) e11 N12 Z0 X00 hr1
  intro T13 h13 lo13 m0 X13 e13 N13 z13 fk13_0 hm0
  refine Go.via (S' := T13.setTop (mkF m 106 #[.val (.long q1), .second, .val (.long q2), .second, .val (.int p3), .val (.int p4), .val (.int p5), .val (.int p6), .val (.int r1), .val (.int r3), .val (.int r5), .val (.int r7), .val (.int r9), .val (.int r11), .val (.int k1), .val (.int k2), .val (.int k3), .val (.int m0), .unset, .unset, .unset, .unset, .unset, .unset, .unset, .unset, .unset, .unset, .unset, .unset, .unset, .unset, .unset] [])) (fun _ k => XS.istore X13.here hx rfl (hb hby at_104) rfl (l' := #[.val (.long q1), .second, .val (.long q2), .second, .val (.int p3), .val (.int p4), .val (.int p5), .val (.int p6), .val (.int r1), .val (.int r3), .val (.int r5), .val (.int r7), .val (.int r9), .val (.int r11), .val (.int k1), .val (.int k2), .val (.int k3), .val (.int m0), .unset, .unset, .unset, .unset, .unset, .unset, .unset, .unset, .unset, .unset, .unset, .unset, .unset, .unset, .unset]) rfl k) ?_
  suffices J122 : ∀ (T16 : State) (h16 : Heap) (lo16 : List Loc) (m1 : Int32) (X16 : Stand p l e room_1 s m #[(.long q1), (.long q2), (.int p3), (.int p4), (.int p5), (.int p6)] below meth c T16 lo16 0 0) (e16 : T16.heap = h16) (N16 : Fr n0 lo16) (z16 : n0 ≤ h16.size) (fk16_0 : Old Z n0 h16) (hm1 : own_ch m1), Go p e below s (Q0 Z q1 q2 p3 p4 p5 p6 G1 h0 n0) room_1.cells room_1.slots (T16.setTop (mkF m 122 #[.val (.long q1), .second, .val (.long q2), .second, .val (.int p3), .val (.int p4), .val (.int p5), .val (.int p6), .val (.int r1), .val (.int r3), .val (.int r5), .val (.int r7), .val (.int r9), .val (.int r11), .val (.int k1), .val (.int k2), .val (.int k3), .val (.int m0), .unset, .unset, .unset, .unset, .unset, .unset, .unset, .unset, .unset, .unset, .unset, .unset, .unset, .unset, .unset] [(.int m1)])) by
    refine Go.via (S' := T13.setTop (mkF m 108 #[.val (.long q1), .second, .val (.long q2), .second, .val (.int p3), .val (.int p4), .val (.int p5), .val (.int p6), .val (.int r1), .val (.int r3), .val (.int r5), .val (.int r7), .val (.int r9), .val (.int r11), .val (.int k1), .val (.int k2), .val (.int k3), .val (.int m0), .unset, .unset, .unset, .unset, .unset, .unset, .unset, .unset, .unset, .unset, .unset, .unset, .unset, .unset, .unset] [(.int k1)])) (fun _ k => XS.iload X13.here hx rfl (hb hby at_106) rfl k) ?_
    rcases Decidable.em (k1 = (0 : Int32)) with hc108 | hc108
    · refine Go.via (S' := T13.setTop (mkF m 116 #[.val (.long q1), .second, .val (.long q2), .second, .val (.int p3), .val (.int p4), .val (.int p5), .val (.int p6), .val (.int r1), .val (.int r3), .val (.int r5), .val (.int r7), .val (.int r9), .val (.int r11), .val (.int k1), .val (.int k2), .val (.int k3), .val (.int m0), .unset, .unset, .unset, .unset, .unset, .unset, .unset, .unset, .unset, .unset, .unset, .unset, .unset, .unset, .unset] [])) (fun _ k => XS.ifYes X13.here hx rfl (pc0 := 108) (pc' := 116) rfl (hb hby at_108) rfl ((if0 _ _).trans (teq hc108).1) (by decide) (by decide) k) ?_
      refine Go.via (S' := T13.setTop (mkF m 117 #[.val (.long q1), .second, .val (.long q2), .second, .val (.int p3), .val (.int p4), .val (.int p5), .val (.int p6), .val (.int r1), .val (.int r3), .val (.int r5), .val (.int r7), .val (.int r9), .val (.int r11), .val (.int k1), .val (.int k2), .val (.int k3), .val (.int m0), .unset, .unset, .unset, .unset, .unset, .unset, .unset, .unset, .unset, .unset, .unset, .unset, .unset, .unset, .unset] [(.long q2)])) (fun _ k => XS.lloadN X13.here hx rfl (hb hby at_116) rfl k) ?_
      refine Go.via (S' := T13.setTop (mkF m 119 #[.val (.long q1), .second, .val (.long q2), .second, .val (.int p3), .val (.int p4), .val (.int p5), .val (.int p6), .val (.int r1), .val (.int r3), .val (.int r5), .val (.int r7), .val (.int r9), .val (.int r11), .val (.int k1), .val (.int k2), .val (.int k3), .val (.int m0), .unset, .unset, .unset, .unset, .unset, .unset, .unset, .unset, .unset, .unset, .unset, .unset, .unset, .unset, .unset] [(.int (8 : Int32)), (.long q2)])) (fun _ k => XS.bipush X13.here hx rfl (hb hby at_117) k) ?_
      obtain ⟨_, _, ⟨T17, L17, k17, n17⟩, -, X17, ⟨Lc17, hQ17, l17, y17, z17⟩, st17⟩ := Jvm.LawKit.callS X13 hx (y := (⟨"com/example/amendatory/amendatory/ProvisionEqualsPinLaw", "ch", "(JI)C"⟩ : MethodName)) hown (mvT hZ (hw _ (List.mem_of_getElem? (i := 0) rfl))) (mvT hZ (hw _ (List.mem_of_getElem? (i := 1) rfl))) (mvT hZ (hw _ (List.mem_of_getElem? (i := 2) rfl))) (mvT hZ (hw _ (List.mem_of_getElem? (i := 3) rfl))) (by decide) (backOf (W := 0) (rm1 l Z a0 hw [] q2 (8 : Int32) h13 n0 z13) hZ (hw _ (List.mem_of_getElem? (i := 3) rfl)) (hw _ (List.mem_of_getElem? (i := 2) rfl)) (by decide) (by decide)) (g := (mkF m 119 #[.val (.long q1), .second, .val (.long q2), .second, .val (.int p3), .val (.int p4), .val (.int p5), .val (.int p6), .val (.int r1), .val (.int r3), .val (.int r5), .val (.int r7), .val (.int r9), .val (.int r11), .val (.int k1), .val (.int k2), .val (.int k3), .val (.int m0), .unset, .unset, .unset, .unset, .unset, .unset, .unset, .unset, .unset, .unset, .unset, .unset, .unset, .unset, .unset] [(.int (8 : Int32)), (.long q2)])) rfl (by rw [hml]; rfl) (argsL := [(.long q2), (.int (8 : Int32))]) (rest := []) (lenOf pd_2 rfl) rfl (by show 2 * 0 + _ ≤ _; exact Nat.le_of_eq rfl) (hb hby at_119) (fun _ _ => ⟨rfl, e13, (by decide : 0 + 0 ≤ _), (by decide : 0 + 0 ≤ _)⟩)
      dsimp only [Pt.U, Pt.locs, Pt.cells, Pt.slots] at X17 l17 y17 z17 st17 hQ17
      subst l17 y17 z17
      obtain ⟨r17, rfl, N17q, e17, hr17⟩ := hQ17
      have N18 := Fr.app N13 N17q
      refine Go.via (S' := T17.setTop (mkF m 122 #[.val (.long q1), .second, .val (.long q2), .second, .val (.int p3), .val (.int p4), .val (.int p5), .val (.int p6), .val (.int r1), .val (.int r3), .val (.int r5), .val (.int r7), .val (.int r9), .val (.int r11), .val (.int k1), .val (.int k2), .val (.int k3), .val (.int m0), .unset, .unset, .unset, .unset, .unset, .unset, .unset, .unset, .unset, .unset, .unset, .unset, .unset, .unset, .unset] [(.int r17)])) (fun _ k => st17 _ k) ?_
      exact J122 T17 h13 _ r17 (X17.more (by decide) (by decide)) e17 N18 z13 fk13_0 hr17
    · refine Go.via (S' := T13.setTop (mkF m 111 #[.val (.long q1), .second, .val (.long q2), .second, .val (.int p3), .val (.int p4), .val (.int p5), .val (.int p6), .val (.int r1), .val (.int r3), .val (.int r5), .val (.int r7), .val (.int r9), .val (.int r11), .val (.int k1), .val (.int k2), .val (.int k3), .val (.int m0), .unset, .unset, .unset, .unset, .unset, .unset, .unset, .unset, .unset, .unset, .unset, .unset, .unset, .unset, .unset] [])) (fun _ k => XS.ifNo X13.here hx rfl (hb hby at_108) rfl ((if0 _ _).trans (feq hc108).1) k) ?_
      refine Go.via (S' := T13.setTop (mkF m 113 #[.val (.long q1), .second, .val (.long q2), .second, .val (.int p3), .val (.int p4), .val (.int p5), .val (.int p6), .val (.int r1), .val (.int r3), .val (.int r5), .val (.int r7), .val (.int r9), .val (.int r11), .val (.int k1), .val (.int k2), .val (.int k3), .val (.int m0), .unset, .unset, .unset, .unset, .unset, .unset, .unset, .unset, .unset, .unset, .unset, .unset, .unset, .unset, .unset] [(.int r3)])) (fun _ k => XS.iload X13.here hx rfl (hb hby at_111) rfl k) ?_
      refine Go.via (S' := T13.setTop (mkF m 122 #[.val (.long q1), .second, .val (.long q2), .second, .val (.int p3), .val (.int p4), .val (.int p5), .val (.int p6), .val (.int r1), .val (.int r3), .val (.int r5), .val (.int r7), .val (.int r9), .val (.int r11), .val (.int k1), .val (.int k2), .val (.int k3), .val (.int m0), .unset, .unset, .unset, .unset, .unset, .unset, .unset, .unset, .unset, .unset, .unset, .unset, .unset, .unset, .unset] [(.int r3)])) (fun _ k => XS.goto X13.here hx rfl (pc0 := 113) (pc' := 122) rfl (hb hby at_113) (by decide) (by decide) k) ?_
      exact J122 T13 h13 _ r3 (X13.more (by decide) (by decide)) e13 N13 z13 fk13_0 hr3
  intro T16 h16 lo16 m1 X16 e16 N16 z16 fk16_0 hm1
  refine Go.via (S' := T16.setTop (mkF m 124 #[.val (.long q1), .second, .val (.long q2), .second, .val (.int p3), .val (.int p4), .val (.int p5), .val (.int p6), .val (.int r1), .val (.int r3), .val (.int r5), .val (.int r7), .val (.int r9), .val (.int r11), .val (.int k1), .val (.int k2), .val (.int k3), .val (.int m0), .val (.int m1), .unset, .unset, .unset, .unset, .unset, .unset, .unset, .unset, .unset, .unset, .unset, .unset, .unset, .unset] [])) (fun _ k => XS.istore X16.here hx rfl (hb hby at_122) rfl (l' := #[.val (.long q1), .second, .val (.long q2), .second, .val (.int p3), .val (.int p4), .val (.int p5), .val (.int p6), .val (.int r1), .val (.int r3), .val (.int r5), .val (.int r7), .val (.int r9), .val (.int r11), .val (.int k1), .val (.int k2), .val (.int k3), .val (.int m0), .val (.int m1), .unset, .unset, .unset, .unset, .unset, .unset, .unset, .unset, .unset, .unset, .unset, .unset, .unset, .unset]) rfl k) ?_
  suffices J140 : ∀ (T19 : State) (h19 : Heap) (lo19 : List Loc) (m2 : Int32) (X19 : Stand p l e room_1 s m #[(.long q1), (.long q2), (.int p3), (.int p4), (.int p5), (.int p6)] below meth c T19 lo19 0 0) (e19 : T19.heap = h19) (N19 : Fr n0 lo19) (z19 : n0 ≤ h19.size) (fk19_0 : Old Z n0 h19) (hm2 : own_ch m2), Go p e below s (Q0 Z q1 q2 p3 p4 p5 p6 G1 h0 n0) room_1.cells room_1.slots (T19.setTop (mkF m 140 #[.val (.long q1), .second, .val (.long q2), .second, .val (.int p3), .val (.int p4), .val (.int p5), .val (.int p6), .val (.int r1), .val (.int r3), .val (.int r5), .val (.int r7), .val (.int r9), .val (.int r11), .val (.int k1), .val (.int k2), .val (.int k3), .val (.int m0), .val (.int m1), .unset, .unset, .unset, .unset, .unset, .unset, .unset, .unset, .unset, .unset, .unset, .unset, .unset, .unset] [(.int m2)])) by
    refine Go.via (S' := T16.setTop (mkF m 126 #[.val (.long q1), .second, .val (.long q2), .second, .val (.int p3), .val (.int p4), .val (.int p5), .val (.int p6), .val (.int r1), .val (.int r3), .val (.int r5), .val (.int r7), .val (.int r9), .val (.int r11), .val (.int k1), .val (.int k2), .val (.int k3), .val (.int m0), .val (.int m1), .unset, .unset, .unset, .unset, .unset, .unset, .unset, .unset, .unset, .unset, .unset, .unset, .unset, .unset] [(.int k2)])) (fun _ k => XS.iload X16.here hx rfl (hb hby at_124) rfl k) ?_
    rcases Decidable.em (k2 = (0 : Int32)) with hc126 | hc126
    · refine Go.via (S' := T16.setTop (mkF m 134 #[.val (.long q1), .second, .val (.long q2), .second, .val (.int p3), .val (.int p4), .val (.int p5), .val (.int p6), .val (.int r1), .val (.int r3), .val (.int r5), .val (.int r7), .val (.int r9), .val (.int r11), .val (.int k1), .val (.int k2), .val (.int k3), .val (.int m0), .val (.int m1), .unset, .unset, .unset, .unset, .unset, .unset, .unset, .unset, .unset, .unset, .unset, .unset, .unset, .unset] [])) (fun _ k => XS.ifYes X16.here hx rfl (pc0 := 126) (pc' := 134) rfl (hb hby at_126) rfl ((if0 _ _).trans (teq hc126).1) (by decide) (by decide) k) ?_
      refine Go.via (S' := T16.setTop (mkF m 135 #[.val (.long q1), .second, .val (.long q2), .second, .val (.int p3), .val (.int p4), .val (.int p5), .val (.int p6), .val (.int r1), .val (.int r3), .val (.int r5), .val (.int r7), .val (.int r9), .val (.int r11), .val (.int k1), .val (.int k2), .val (.int k3), .val (.int m0), .val (.int m1), .unset, .unset, .unset, .unset, .unset, .unset, .unset, .unset, .unset, .unset, .unset, .unset, .unset, .unset] [(.long q2)])) (fun _ k => XS.lloadN X16.here hx rfl (hb hby at_134) rfl k) ?_
      refine Go.via (S' := T16.setTop (mkF m 137 #[.val (.long q1), .second, .val (.long q2), .second, .val (.int p3), .val (.int p4), .val (.int p5), .val (.int p6), .val (.int r1), .val (.int r3), .val (.int r5), .val (.int r7), .val (.int r9), .val (.int r11), .val (.int k1), .val (.int k2), .val (.int k3), .val (.int m0), .val (.int m1), .unset, .unset, .unset, .unset, .unset, .unset, .unset, .unset, .unset, .unset, .unset, .unset, .unset, .unset] [(.int (16 : Int32)), (.long q2)])) (fun _ k => XS.bipush X16.here hx rfl (hb hby at_135) k) ?_
      obtain ⟨_, _, ⟨T20, L20, k20, n20⟩, -, X20, ⟨Lc20, hQ20, l20, y20, z20⟩, st20⟩ := Jvm.LawKit.callS X16 hx (y := (⟨"com/example/amendatory/amendatory/ProvisionEqualsPinLaw", "ch", "(JI)C"⟩ : MethodName)) hown (mvT hZ (hw _ (List.mem_of_getElem? (i := 0) rfl))) (mvT hZ (hw _ (List.mem_of_getElem? (i := 1) rfl))) (mvT hZ (hw _ (List.mem_of_getElem? (i := 2) rfl))) (mvT hZ (hw _ (List.mem_of_getElem? (i := 3) rfl))) (by decide) (backOf (W := 0) (rm1 l Z a0 hw [] q2 (16 : Int32) h16 n0 z16) hZ (hw _ (List.mem_of_getElem? (i := 3) rfl)) (hw _ (List.mem_of_getElem? (i := 2) rfl)) (by decide) (by decide)) (g := (mkF m 137 #[.val (.long q1), .second, .val (.long q2), .second, .val (.int p3), .val (.int p4), .val (.int p5), .val (.int p6), .val (.int r1), .val (.int r3), .val (.int r5), .val (.int r7), .val (.int r9), .val (.int r11), .val (.int k1), .val (.int k2), .val (.int k3), .val (.int m0), .val (.int m1), .unset, .unset, .unset, .unset, .unset, .unset, .unset, .unset, .unset, .unset, .unset, .unset, .unset, .unset] [(.int (16 : Int32)), (.long q2)])) rfl (by rw [hml]; rfl) (argsL := [(.long q2), (.int (16 : Int32))]) (rest := []) (lenOf pd_2 rfl) rfl (by show 2 * 0 + _ ≤ _; exact Nat.le_of_eq rfl) (hb hby at_137) (fun _ _ => ⟨rfl, e16, (by decide : 0 + 0 ≤ _), (by decide : 0 + 0 ≤ _)⟩)
      dsimp only [Pt.U, Pt.locs, Pt.cells, Pt.slots] at X20 l20 y20 z20 st20 hQ20
      subst l20 y20 z20
      obtain ⟨r20, rfl, N20q, e20, hr20⟩ := hQ20
      have N21 := Fr.app N16 N20q
      refine Go.via (S' := T20.setTop (mkF m 140 #[.val (.long q1), .second, .val (.long q2), .second, .val (.int p3), .val (.int p4), .val (.int p5), .val (.int p6), .val (.int r1), .val (.int r3), .val (.int r5), .val (.int r7), .val (.int r9), .val (.int r11), .val (.int k1), .val (.int k2), .val (.int k3), .val (.int m0), .val (.int m1), .unset, .unset, .unset, .unset, .unset, .unset, .unset, .unset, .unset, .unset, .unset, .unset, .unset, .unset] [(.int r20)])) (fun _ k => st20 _ k) ?_
      exact J140 T20 h16 _ r20 (X20.more (by decide) (by decide)) e20 N21 z16 fk16_0 hr20
    · refine Go.via (S' := T16.setTop (mkF m 129 #[.val (.long q1), .second, .val (.long q2), .second, .val (.int p3), .val (.int p4), .val (.int p5), .val (.int p6), .val (.int r1), .val (.int r3), .val (.int r5), .val (.int r7), .val (.int r9), .val (.int r11), .val (.int k1), .val (.int k2), .val (.int k3), .val (.int m0), .val (.int m1), .unset, .unset, .unset, .unset, .unset, .unset, .unset, .unset, .unset, .unset, .unset, .unset, .unset, .unset] [])) (fun _ k => XS.ifNo X16.here hx rfl (hb hby at_126) rfl ((if0 _ _).trans (feq hc126).1) k) ?_
      refine Go.via (S' := T16.setTop (mkF m 131 #[.val (.long q1), .second, .val (.long q2), .second, .val (.int p3), .val (.int p4), .val (.int p5), .val (.int p6), .val (.int r1), .val (.int r3), .val (.int r5), .val (.int r7), .val (.int r9), .val (.int r11), .val (.int k1), .val (.int k2), .val (.int k3), .val (.int m0), .val (.int m1), .unset, .unset, .unset, .unset, .unset, .unset, .unset, .unset, .unset, .unset, .unset, .unset, .unset, .unset] [(.int r5)])) (fun _ k => XS.iload X16.here hx rfl (hb hby at_129) rfl k) ?_
      refine Go.via (S' := T16.setTop (mkF m 140 #[.val (.long q1), .second, .val (.long q2), .second, .val (.int p3), .val (.int p4), .val (.int p5), .val (.int p6), .val (.int r1), .val (.int r3), .val (.int r5), .val (.int r7), .val (.int r9), .val (.int r11), .val (.int k1), .val (.int k2), .val (.int k3), .val (.int m0), .val (.int m1), .unset, .unset, .unset, .unset, .unset, .unset, .unset, .unset, .unset, .unset, .unset, .unset, .unset, .unset] [(.int r5)])) (fun _ k => XS.goto X16.here hx rfl (pc0 := 131) (pc' := 140) rfl (hb hby at_131) (by decide) (by decide) k) ?_
      exact J140 T16 h16 _ r5 (X16.more (by decide) (by decide)) e16 N16 z16 fk16_0 hr5
  intro T19 h19 lo19 m2 X19 e19 N19 z19 fk19_0 hm2
  refine Go.via (S' := T19.setTop (mkF m 142 #[.val (.long q1), .second, .val (.long q2), .second, .val (.int p3), .val (.int p4), .val (.int p5), .val (.int p6), .val (.int r1), .val (.int r3), .val (.int r5), .val (.int r7), .val (.int r9), .val (.int r11), .val (.int k1), .val (.int k2), .val (.int k3), .val (.int m0), .val (.int m1), .val (.int m2), .unset, .unset, .unset, .unset, .unset, .unset, .unset, .unset, .unset, .unset, .unset, .unset, .unset] [])) (fun _ k => XS.istore X19.here hx rfl (hb hby at_140) rfl (l' := #[.val (.long q1), .second, .val (.long q2), .second, .val (.int p3), .val (.int p4), .val (.int p5), .val (.int p6), .val (.int r1), .val (.int r3), .val (.int r5), .val (.int r7), .val (.int r9), .val (.int r11), .val (.int k1), .val (.int k2), .val (.int k3), .val (.int m0), .val (.int m1), .val (.int m2), .unset, .unset, .unset, .unset, .unset, .unset, .unset, .unset, .unset, .unset, .unset, .unset, .unset]) rfl k) ?_
  suffices J158 : ∀ (T22 : State) (h22 : Heap) (lo22 : List Loc) (m3 : Int32) (X22 : Stand p l e room_1 s m #[(.long q1), (.long q2), (.int p3), (.int p4), (.int p5), (.int p6)] below meth c T22 lo22 0 0) (e22 : T22.heap = h22) (N22 : Fr n0 lo22) (z22 : n0 ≤ h22.size) (fk22_0 : Old Z n0 h22) (hm3 : own_ch m3), Go p e below s (Q0 Z q1 q2 p3 p4 p5 p6 G1 h0 n0) room_1.cells room_1.slots (T22.setTop (mkF m 158 #[.val (.long q1), .second, .val (.long q2), .second, .val (.int p3), .val (.int p4), .val (.int p5), .val (.int p6), .val (.int r1), .val (.int r3), .val (.int r5), .val (.int r7), .val (.int r9), .val (.int r11), .val (.int k1), .val (.int k2), .val (.int k3), .val (.int m0), .val (.int m1), .val (.int m2), .unset, .unset, .unset, .unset, .unset, .unset, .unset, .unset, .unset, .unset, .unset, .unset, .unset] [(.int m3)])) by
    refine Go.via (S' := T19.setTop (mkF m 144 #[.val (.long q1), .second, .val (.long q2), .second, .val (.int p3), .val (.int p4), .val (.int p5), .val (.int p6), .val (.int r1), .val (.int r3), .val (.int r5), .val (.int r7), .val (.int r9), .val (.int r11), .val (.int k1), .val (.int k2), .val (.int k3), .val (.int m0), .val (.int m1), .val (.int m2), .unset, .unset, .unset, .unset, .unset, .unset, .unset, .unset, .unset, .unset, .unset, .unset, .unset] [(.int k2)])) (fun _ k => XS.iload X19.here hx rfl (hb hby at_142) rfl k) ?_
    rcases Decidable.em (k2 = (0 : Int32)) with hc144 | hc144
    · refine Go.via (S' := T19.setTop (mkF m 152 #[.val (.long q1), .second, .val (.long q2), .second, .val (.int p3), .val (.int p4), .val (.int p5), .val (.int p6), .val (.int r1), .val (.int r3), .val (.int r5), .val (.int r7), .val (.int r9), .val (.int r11), .val (.int k1), .val (.int k2), .val (.int k3), .val (.int m0), .val (.int m1), .val (.int m2), .unset, .unset, .unset, .unset, .unset, .unset, .unset, .unset, .unset, .unset, .unset, .unset, .unset] [])) (fun _ k => XS.ifYes X19.here hx rfl (pc0 := 144) (pc' := 152) rfl (hb hby at_144) rfl ((if0 _ _).trans (teq hc144).1) (by decide) (by decide) k) ?_
      refine Go.via (S' := T19.setTop (mkF m 153 #[.val (.long q1), .second, .val (.long q2), .second, .val (.int p3), .val (.int p4), .val (.int p5), .val (.int p6), .val (.int r1), .val (.int r3), .val (.int r5), .val (.int r7), .val (.int r9), .val (.int r11), .val (.int k1), .val (.int k2), .val (.int k3), .val (.int m0), .val (.int m1), .val (.int m2), .unset, .unset, .unset, .unset, .unset, .unset, .unset, .unset, .unset, .unset, .unset, .unset, .unset] [(.long q2)])) (fun _ k => XS.lloadN X19.here hx rfl (hb hby at_152) rfl k) ?_
      refine Go.via (S' := T19.setTop (mkF m 155 #[.val (.long q1), .second, .val (.long q2), .second, .val (.int p3), .val (.int p4), .val (.int p5), .val (.int p6), .val (.int r1), .val (.int r3), .val (.int r5), .val (.int r7), .val (.int r9), .val (.int r11), .val (.int k1), .val (.int k2), .val (.int k3), .val (.int m0), .val (.int m1), .val (.int m2), .unset, .unset, .unset, .unset, .unset, .unset, .unset, .unset, .unset, .unset, .unset, .unset, .unset] [(.int (24 : Int32)), (.long q2)])) (fun _ k => XS.bipush X19.here hx rfl (hb hby at_153) k) ?_
      obtain ⟨_, _, ⟨T23, L23, k23, n23⟩, -, X23, ⟨Lc23, hQ23, l23, y23, z23⟩, st23⟩ := Jvm.LawKit.callS X19 hx (y := (⟨"com/example/amendatory/amendatory/ProvisionEqualsPinLaw", "ch", "(JI)C"⟩ : MethodName)) hown (mvT hZ (hw _ (List.mem_of_getElem? (i := 0) rfl))) (mvT hZ (hw _ (List.mem_of_getElem? (i := 1) rfl))) (mvT hZ (hw _ (List.mem_of_getElem? (i := 2) rfl))) (mvT hZ (hw _ (List.mem_of_getElem? (i := 3) rfl))) (by decide) (backOf (W := 0) (rm1 l Z a0 hw [] q2 (24 : Int32) h19 n0 z19) hZ (hw _ (List.mem_of_getElem? (i := 3) rfl)) (hw _ (List.mem_of_getElem? (i := 2) rfl)) (by decide) (by decide)) (g := (mkF m 155 #[.val (.long q1), .second, .val (.long q2), .second, .val (.int p3), .val (.int p4), .val (.int p5), .val (.int p6), .val (.int r1), .val (.int r3), .val (.int r5), .val (.int r7), .val (.int r9), .val (.int r11), .val (.int k1), .val (.int k2), .val (.int k3), .val (.int m0), .val (.int m1), .val (.int m2), .unset, .unset, .unset, .unset, .unset, .unset, .unset, .unset, .unset, .unset, .unset, .unset, .unset] [(.int (24 : Int32)), (.long q2)])) rfl (by rw [hml]; rfl) (argsL := [(.long q2), (.int (24 : Int32))]) (rest := []) (lenOf pd_2 rfl) rfl (by show 2 * 0 + _ ≤ _; exact Nat.le_of_eq rfl) (hb hby at_155) (fun _ _ => ⟨rfl, e19, (by decide : 0 + 0 ≤ _), (by decide : 0 + 0 ≤ _)⟩)
      dsimp only [Pt.U, Pt.locs, Pt.cells, Pt.slots] at X23 l23 y23 z23 st23 hQ23
      subst l23 y23 z23
      obtain ⟨r23, rfl, N23q, e23, hr23⟩ := hQ23
      have N24 := Fr.app N19 N23q
      refine Go.via (S' := T23.setTop (mkF m 158 #[.val (.long q1), .second, .val (.long q2), .second, .val (.int p3), .val (.int p4), .val (.int p5), .val (.int p6), .val (.int r1), .val (.int r3), .val (.int r5), .val (.int r7), .val (.int r9), .val (.int r11), .val (.int k1), .val (.int k2), .val (.int k3), .val (.int m0), .val (.int m1), .val (.int m2), .unset, .unset, .unset, .unset, .unset, .unset, .unset, .unset, .unset, .unset, .unset, .unset, .unset] [(.int r23)])) (fun _ k => st23 _ k) ?_
      exact J158 T23 h19 _ r23 (X23.more (by decide) (by decide)) e23 N24 z19 fk19_0 hr23
    · refine Go.via (S' := T19.setTop (mkF m 147 #[.val (.long q1), .second, .val (.long q2), .second, .val (.int p3), .val (.int p4), .val (.int p5), .val (.int p6), .val (.int r1), .val (.int r3), .val (.int r5), .val (.int r7), .val (.int r9), .val (.int r11), .val (.int k1), .val (.int k2), .val (.int k3), .val (.int m0), .val (.int m1), .val (.int m2), .unset, .unset, .unset, .unset, .unset, .unset, .unset, .unset, .unset, .unset, .unset, .unset, .unset] [])) (fun _ k => XS.ifNo X19.here hx rfl (hb hby at_144) rfl ((if0 _ _).trans (feq hc144).1) k) ?_
      refine Go.via (S' := T19.setTop (mkF m 149 #[.val (.long q1), .second, .val (.long q2), .second, .val (.int p3), .val (.int p4), .val (.int p5), .val (.int p6), .val (.int r1), .val (.int r3), .val (.int r5), .val (.int r7), .val (.int r9), .val (.int r11), .val (.int k1), .val (.int k2), .val (.int k3), .val (.int m0), .val (.int m1), .val (.int m2), .unset, .unset, .unset, .unset, .unset, .unset, .unset, .unset, .unset, .unset, .unset, .unset, .unset] [(.int r7)])) (fun _ k => XS.iload X19.here hx rfl (hb hby at_147) rfl k) ?_
      refine Go.via (S' := T19.setTop (mkF m 158 #[.val (.long q1), .second, .val (.long q2), .second, .val (.int p3), .val (.int p4), .val (.int p5), .val (.int p6), .val (.int r1), .val (.int r3), .val (.int r5), .val (.int r7), .val (.int r9), .val (.int r11), .val (.int k1), .val (.int k2), .val (.int k3), .val (.int m0), .val (.int m1), .val (.int m2), .unset, .unset, .unset, .unset, .unset, .unset, .unset, .unset, .unset, .unset, .unset, .unset, .unset] [(.int r7)])) (fun _ k => XS.goto X19.here hx rfl (pc0 := 149) (pc' := 158) rfl (hb hby at_149) (by decide) (by decide) k) ?_
      exact J158 T19 h19 _ r7 (X19.more (by decide) (by decide)) e19 N19 z19 fk19_0 hr7
  intro T22 h22 lo22 m3 X22 e22 N22 z22 fk22_0 hm3
  refine Go.via (S' := T22.setTop (mkF m 160 #[.val (.long q1), .second, .val (.long q2), .second, .val (.int p3), .val (.int p4), .val (.int p5), .val (.int p6), .val (.int r1), .val (.int r3), .val (.int r5), .val (.int r7), .val (.int r9), .val (.int r11), .val (.int k1), .val (.int k2), .val (.int k3), .val (.int m0), .val (.int m1), .val (.int m2), .val (.int m3), .unset, .unset, .unset, .unset, .unset, .unset, .unset, .unset, .unset, .unset, .unset, .unset] [])) (fun _ k => XS.istore X22.here hx rfl (hb hby at_158) rfl (l' := #[.val (.long q1), .second, .val (.long q2), .second, .val (.int p3), .val (.int p4), .val (.int p5), .val (.int p6), .val (.int r1), .val (.int r3), .val (.int r5), .val (.int r7), .val (.int r9), .val (.int r11), .val (.int k1), .val (.int k2), .val (.int k3), .val (.int m0), .val (.int m1), .val (.int m2), .val (.int m3), .unset, .unset, .unset, .unset, .unset, .unset, .unset, .unset, .unset, .unset, .unset, .unset]) rfl k) ?_
  suffices J176 : ∀ (T25 : State) (h25 : Heap) (lo25 : List Loc) (m4 : Int32) (X25 : Stand p l e room_1 s m #[(.long q1), (.long q2), (.int p3), (.int p4), (.int p5), (.int p6)] below meth c T25 lo25 0 0) (e25 : T25.heap = h25) (N25 : Fr n0 lo25) (z25 : n0 ≤ h25.size) (fk25_0 : Old Z n0 h25) (hm4 : own_ch m4), Go p e below s (Q0 Z q1 q2 p3 p4 p5 p6 G1 h0 n0) room_1.cells room_1.slots (T25.setTop (mkF m 176 #[.val (.long q1), .second, .val (.long q2), .second, .val (.int p3), .val (.int p4), .val (.int p5), .val (.int p6), .val (.int r1), .val (.int r3), .val (.int r5), .val (.int r7), .val (.int r9), .val (.int r11), .val (.int k1), .val (.int k2), .val (.int k3), .val (.int m0), .val (.int m1), .val (.int m2), .val (.int m3), .unset, .unset, .unset, .unset, .unset, .unset, .unset, .unset, .unset, .unset, .unset, .unset] [(.int m4)])) by
    refine Go.via (S' := T22.setTop (mkF m 162 #[.val (.long q1), .second, .val (.long q2), .second, .val (.int p3), .val (.int p4), .val (.int p5), .val (.int p6), .val (.int r1), .val (.int r3), .val (.int r5), .val (.int r7), .val (.int r9), .val (.int r11), .val (.int k1), .val (.int k2), .val (.int k3), .val (.int m0), .val (.int m1), .val (.int m2), .val (.int m3), .unset, .unset, .unset, .unset, .unset, .unset, .unset, .unset, .unset, .unset, .unset, .unset] [(.int k3)])) (fun _ k => XS.iload X22.here hx rfl (hb hby at_160) rfl k) ?_
    rcases Decidable.em (k3 = (0 : Int32)) with hc162 | hc162
    · refine Go.via (S' := T22.setTop (mkF m 170 #[.val (.long q1), .second, .val (.long q2), .second, .val (.int p3), .val (.int p4), .val (.int p5), .val (.int p6), .val (.int r1), .val (.int r3), .val (.int r5), .val (.int r7), .val (.int r9), .val (.int r11), .val (.int k1), .val (.int k2), .val (.int k3), .val (.int m0), .val (.int m1), .val (.int m2), .val (.int m3), .unset, .unset, .unset, .unset, .unset, .unset, .unset, .unset, .unset, .unset, .unset, .unset] [])) (fun _ k => XS.ifYes X22.here hx rfl (pc0 := 162) (pc' := 170) rfl (hb hby at_162) rfl ((if0 _ _).trans (teq hc162).1) (by decide) (by decide) k) ?_
      refine Go.via (S' := T22.setTop (mkF m 171 #[.val (.long q1), .second, .val (.long q2), .second, .val (.int p3), .val (.int p4), .val (.int p5), .val (.int p6), .val (.int r1), .val (.int r3), .val (.int r5), .val (.int r7), .val (.int r9), .val (.int r11), .val (.int k1), .val (.int k2), .val (.int k3), .val (.int m0), .val (.int m1), .val (.int m2), .val (.int m3), .unset, .unset, .unset, .unset, .unset, .unset, .unset, .unset, .unset, .unset, .unset, .unset] [(.long q2)])) (fun _ k => XS.lloadN X22.here hx rfl (hb hby at_170) rfl k) ?_
      refine Go.via (S' := T22.setTop (mkF m 173 #[.val (.long q1), .second, .val (.long q2), .second, .val (.int p3), .val (.int p4), .val (.int p5), .val (.int p6), .val (.int r1), .val (.int r3), .val (.int r5), .val (.int r7), .val (.int r9), .val (.int r11), .val (.int k1), .val (.int k2), .val (.int k3), .val (.int m0), .val (.int m1), .val (.int m2), .val (.int m3), .unset, .unset, .unset, .unset, .unset, .unset, .unset, .unset, .unset, .unset, .unset, .unset] [(.int (32 : Int32)), (.long q2)])) (fun _ k => XS.bipush X22.here hx rfl (hb hby at_171) k) ?_
      obtain ⟨_, _, ⟨T26, L26, k26, n26⟩, -, X26, ⟨Lc26, hQ26, l26, y26, z26⟩, st26⟩ := Jvm.LawKit.callS X22 hx (y := (⟨"com/example/amendatory/amendatory/ProvisionEqualsPinLaw", "ch", "(JI)C"⟩ : MethodName)) hown (mvT hZ (hw _ (List.mem_of_getElem? (i := 0) rfl))) (mvT hZ (hw _ (List.mem_of_getElem? (i := 1) rfl))) (mvT hZ (hw _ (List.mem_of_getElem? (i := 2) rfl))) (mvT hZ (hw _ (List.mem_of_getElem? (i := 3) rfl))) (by decide) (backOf (W := 0) (rm1 l Z a0 hw [] q2 (32 : Int32) h22 n0 z22) hZ (hw _ (List.mem_of_getElem? (i := 3) rfl)) (hw _ (List.mem_of_getElem? (i := 2) rfl)) (by decide) (by decide)) (g := (mkF m 173 #[.val (.long q1), .second, .val (.long q2), .second, .val (.int p3), .val (.int p4), .val (.int p5), .val (.int p6), .val (.int r1), .val (.int r3), .val (.int r5), .val (.int r7), .val (.int r9), .val (.int r11), .val (.int k1), .val (.int k2), .val (.int k3), .val (.int m0), .val (.int m1), .val (.int m2), .val (.int m3), .unset, .unset, .unset, .unset, .unset, .unset, .unset, .unset, .unset, .unset, .unset, .unset] [(.int (32 : Int32)), (.long q2)])) rfl (by rw [hml]; rfl) (argsL := [(.long q2), (.int (32 : Int32))]) (rest := []) (lenOf pd_2 rfl) rfl (by show 2 * 0 + _ ≤ _; exact Nat.le_of_eq rfl) (hb hby at_173) (fun _ _ => ⟨rfl, e22, (by decide : 0 + 0 ≤ _), (by decide : 0 + 0 ≤ _)⟩)
      dsimp only [Pt.U, Pt.locs, Pt.cells, Pt.slots] at X26 l26 y26 z26 st26 hQ26
      subst l26 y26 z26
      obtain ⟨r26, rfl, N26q, e26, hr26⟩ := hQ26
      have N27 := Fr.app N22 N26q
      refine Go.via (S' := T26.setTop (mkF m 176 #[.val (.long q1), .second, .val (.long q2), .second, .val (.int p3), .val (.int p4), .val (.int p5), .val (.int p6), .val (.int r1), .val (.int r3), .val (.int r5), .val (.int r7), .val (.int r9), .val (.int r11), .val (.int k1), .val (.int k2), .val (.int k3), .val (.int m0), .val (.int m1), .val (.int m2), .val (.int m3), .unset, .unset, .unset, .unset, .unset, .unset, .unset, .unset, .unset, .unset, .unset, .unset] [(.int r26)])) (fun _ k => st26 _ k) ?_
      exact J176 T26 h22 _ r26 (X26.more (by decide) (by decide)) e26 N27 z22 fk22_0 hr26
    · refine Go.via (S' := T22.setTop (mkF m 165 #[.val (.long q1), .second, .val (.long q2), .second, .val (.int p3), .val (.int p4), .val (.int p5), .val (.int p6), .val (.int r1), .val (.int r3), .val (.int r5), .val (.int r7), .val (.int r9), .val (.int r11), .val (.int k1), .val (.int k2), .val (.int k3), .val (.int m0), .val (.int m1), .val (.int m2), .val (.int m3), .unset, .unset, .unset, .unset, .unset, .unset, .unset, .unset, .unset, .unset, .unset, .unset] [])) (fun _ k => XS.ifNo X22.here hx rfl (hb hby at_162) rfl ((if0 _ _).trans (feq hc162).1) k) ?_
      refine Go.via (S' := T22.setTop (mkF m 167 #[.val (.long q1), .second, .val (.long q2), .second, .val (.int p3), .val (.int p4), .val (.int p5), .val (.int p6), .val (.int r1), .val (.int r3), .val (.int r5), .val (.int r7), .val (.int r9), .val (.int r11), .val (.int k1), .val (.int k2), .val (.int k3), .val (.int m0), .val (.int m1), .val (.int m2), .val (.int m3), .unset, .unset, .unset, .unset, .unset, .unset, .unset, .unset, .unset, .unset, .unset, .unset] [(.int r9)])) (fun _ k => XS.iload X22.here hx rfl (hb hby at_165) rfl k) ?_
      refine Go.via (S' := T22.setTop (mkF m 176 #[.val (.long q1), .second, .val (.long q2), .second, .val (.int p3), .val (.int p4), .val (.int p5), .val (.int p6), .val (.int r1), .val (.int r3), .val (.int r5), .val (.int r7), .val (.int r9), .val (.int r11), .val (.int k1), .val (.int k2), .val (.int k3), .val (.int m0), .val (.int m1), .val (.int m2), .val (.int m3), .unset, .unset, .unset, .unset, .unset, .unset, .unset, .unset, .unset, .unset, .unset, .unset] [(.int r9)])) (fun _ k => XS.goto X22.here hx rfl (pc0 := 167) (pc' := 176) rfl (hb hby at_167) (by decide) (by decide) k) ?_
      exact J176 T22 h22 _ r9 (X22.more (by decide) (by decide)) e22 N22 z22 fk22_0 hr9
  intro T25 h25 lo25 m4 X25 e25 N25 z25 fk25_0 hm4
  refine Go.via (S' := T25.setTop (mkF m 178 #[.val (.long q1), .second, .val (.long q2), .second, .val (.int p3), .val (.int p4), .val (.int p5), .val (.int p6), .val (.int r1), .val (.int r3), .val (.int r5), .val (.int r7), .val (.int r9), .val (.int r11), .val (.int k1), .val (.int k2), .val (.int k3), .val (.int m0), .val (.int m1), .val (.int m2), .val (.int m3), .val (.int m4), .unset, .unset, .unset, .unset, .unset, .unset, .unset, .unset, .unset, .unset, .unset] [])) (fun _ k => XS.istore X25.here hx rfl (hb hby at_176) rfl (l' := #[.val (.long q1), .second, .val (.long q2), .second, .val (.int p3), .val (.int p4), .val (.int p5), .val (.int p6), .val (.int r1), .val (.int r3), .val (.int r5), .val (.int r7), .val (.int r9), .val (.int r11), .val (.int k1), .val (.int k2), .val (.int k3), .val (.int m0), .val (.int m1), .val (.int m2), .val (.int m3), .val (.int m4), .unset, .unset, .unset, .unset, .unset, .unset, .unset, .unset, .unset, .unset, .unset]) rfl k) ?_
  suffices J194 : ∀ (T28 : State) (h28 : Heap) (lo28 : List Loc) (m5 : Int32) (X28 : Stand p l e room_1 s m #[(.long q1), (.long q2), (.int p3), (.int p4), (.int p5), (.int p6)] below meth c T28 lo28 0 0) (e28 : T28.heap = h28) (N28 : Fr n0 lo28) (z28 : n0 ≤ h28.size) (fk28_0 : Old Z n0 h28) (hm5 : own_ch m5), Go p e below s (Q0 Z q1 q2 p3 p4 p5 p6 G1 h0 n0) room_1.cells room_1.slots (T28.setTop (mkF m 194 #[.val (.long q1), .second, .val (.long q2), .second, .val (.int p3), .val (.int p4), .val (.int p5), .val (.int p6), .val (.int r1), .val (.int r3), .val (.int r5), .val (.int r7), .val (.int r9), .val (.int r11), .val (.int k1), .val (.int k2), .val (.int k3), .val (.int m0), .val (.int m1), .val (.int m2), .val (.int m3), .val (.int m4), .unset, .unset, .unset, .unset, .unset, .unset, .unset, .unset, .unset, .unset, .unset] [(.int m5)])) by
    refine Go.via (S' := T25.setTop (mkF m 180 #[.val (.long q1), .second, .val (.long q2), .second, .val (.int p3), .val (.int p4), .val (.int p5), .val (.int p6), .val (.int r1), .val (.int r3), .val (.int r5), .val (.int r7), .val (.int r9), .val (.int r11), .val (.int k1), .val (.int k2), .val (.int k3), .val (.int m0), .val (.int m1), .val (.int m2), .val (.int m3), .val (.int m4), .unset, .unset, .unset, .unset, .unset, .unset, .unset, .unset, .unset, .unset, .unset] [(.int k3)])) (fun _ k => XS.iload X25.here hx rfl (hb hby at_178) rfl k) ?_
    rcases Decidable.em (k3 = (0 : Int32)) with hc180 | hc180
    · refine Go.via (S' := T25.setTop (mkF m 188 #[.val (.long q1), .second, .val (.long q2), .second, .val (.int p3), .val (.int p4), .val (.int p5), .val (.int p6), .val (.int r1), .val (.int r3), .val (.int r5), .val (.int r7), .val (.int r9), .val (.int r11), .val (.int k1), .val (.int k2), .val (.int k3), .val (.int m0), .val (.int m1), .val (.int m2), .val (.int m3), .val (.int m4), .unset, .unset, .unset, .unset, .unset, .unset, .unset, .unset, .unset, .unset, .unset] [])) (fun _ k => XS.ifYes X25.here hx rfl (pc0 := 180) (pc' := 188) rfl (hb hby at_180) rfl ((if0 _ _).trans (teq hc180).1) (by decide) (by decide) k) ?_
      refine Go.via (S' := T25.setTop (mkF m 189 #[.val (.long q1), .second, .val (.long q2), .second, .val (.int p3), .val (.int p4), .val (.int p5), .val (.int p6), .val (.int r1), .val (.int r3), .val (.int r5), .val (.int r7), .val (.int r9), .val (.int r11), .val (.int k1), .val (.int k2), .val (.int k3), .val (.int m0), .val (.int m1), .val (.int m2), .val (.int m3), .val (.int m4), .unset, .unset, .unset, .unset, .unset, .unset, .unset, .unset, .unset, .unset, .unset] [(.long q2)])) (fun _ k => XS.lloadN X25.here hx rfl (hb hby at_188) rfl k) ?_
      refine Go.via (S' := T25.setTop (mkF m 191 #[.val (.long q1), .second, .val (.long q2), .second, .val (.int p3), .val (.int p4), .val (.int p5), .val (.int p6), .val (.int r1), .val (.int r3), .val (.int r5), .val (.int r7), .val (.int r9), .val (.int r11), .val (.int k1), .val (.int k2), .val (.int k3), .val (.int m0), .val (.int m1), .val (.int m2), .val (.int m3), .val (.int m4), .unset, .unset, .unset, .unset, .unset, .unset, .unset, .unset, .unset, .unset, .unset] [(.int (40 : Int32)), (.long q2)])) (fun _ k => XS.bipush X25.here hx rfl (hb hby at_189) k) ?_
      obtain ⟨_, _, ⟨T29, L29, k29, n29⟩, -, X29, ⟨Lc29, hQ29, l29, y29, z29⟩, st29⟩ := Jvm.LawKit.callS X25 hx (y := (⟨"com/example/amendatory/amendatory/ProvisionEqualsPinLaw", "ch", "(JI)C"⟩ : MethodName)) hown (mvT hZ (hw _ (List.mem_of_getElem? (i := 0) rfl))) (mvT hZ (hw _ (List.mem_of_getElem? (i := 1) rfl))) (mvT hZ (hw _ (List.mem_of_getElem? (i := 2) rfl))) (mvT hZ (hw _ (List.mem_of_getElem? (i := 3) rfl))) (by decide) (backOf (W := 0) (rm1 l Z a0 hw [] q2 (40 : Int32) h25 n0 z25) hZ (hw _ (List.mem_of_getElem? (i := 3) rfl)) (hw _ (List.mem_of_getElem? (i := 2) rfl)) (by decide) (by decide)) (g := (mkF m 191 #[.val (.long q1), .second, .val (.long q2), .second, .val (.int p3), .val (.int p4), .val (.int p5), .val (.int p6), .val (.int r1), .val (.int r3), .val (.int r5), .val (.int r7), .val (.int r9), .val (.int r11), .val (.int k1), .val (.int k2), .val (.int k3), .val (.int m0), .val (.int m1), .val (.int m2), .val (.int m3), .val (.int m4), .unset, .unset, .unset, .unset, .unset, .unset, .unset, .unset, .unset, .unset, .unset] [(.int (40 : Int32)), (.long q2)])) rfl (by rw [hml]; rfl) (argsL := [(.long q2), (.int (40 : Int32))]) (rest := []) (lenOf pd_2 rfl) rfl (by show 2 * 0 + _ ≤ _; exact Nat.le_of_eq rfl) (hb hby at_191) (fun _ _ => ⟨rfl, e25, (by decide : 0 + 0 ≤ _), (by decide : 0 + 0 ≤ _)⟩)
      dsimp only [Pt.U, Pt.locs, Pt.cells, Pt.slots] at X29 l29 y29 z29 st29 hQ29
      subst l29 y29 z29
      obtain ⟨r29, rfl, N29q, e29, hr29⟩ := hQ29
      have N30 := Fr.app N25 N29q
      refine Go.via (S' := T29.setTop (mkF m 194 #[.val (.long q1), .second, .val (.long q2), .second, .val (.int p3), .val (.int p4), .val (.int p5), .val (.int p6), .val (.int r1), .val (.int r3), .val (.int r5), .val (.int r7), .val (.int r9), .val (.int r11), .val (.int k1), .val (.int k2), .val (.int k3), .val (.int m0), .val (.int m1), .val (.int m2), .val (.int m3), .val (.int m4), .unset, .unset, .unset, .unset, .unset, .unset, .unset, .unset, .unset, .unset, .unset] [(.int r29)])) (fun _ k => st29 _ k) ?_
      exact J194 T29 h25 _ r29 (X29.more (by decide) (by decide)) e29 N30 z25 fk25_0 hr29
    · refine Go.via (S' := T25.setTop (mkF m 183 #[.val (.long q1), .second, .val (.long q2), .second, .val (.int p3), .val (.int p4), .val (.int p5), .val (.int p6), .val (.int r1), .val (.int r3), .val (.int r5), .val (.int r7), .val (.int r9), .val (.int r11), .val (.int k1), .val (.int k2), .val (.int k3), .val (.int m0), .val (.int m1), .val (.int m2), .val (.int m3), .val (.int m4), .unset, .unset, .unset, .unset, .unset, .unset, .unset, .unset, .unset, .unset, .unset] [])) (fun _ k => XS.ifNo X25.here hx rfl (hb hby at_180) rfl ((if0 _ _).trans (feq hc180).1) k) ?_
      refine Go.via (S' := T25.setTop (mkF m 185 #[.val (.long q1), .second, .val (.long q2), .second, .val (.int p3), .val (.int p4), .val (.int p5), .val (.int p6), .val (.int r1), .val (.int r3), .val (.int r5), .val (.int r7), .val (.int r9), .val (.int r11), .val (.int k1), .val (.int k2), .val (.int k3), .val (.int m0), .val (.int m1), .val (.int m2), .val (.int m3), .val (.int m4), .unset, .unset, .unset, .unset, .unset, .unset, .unset, .unset, .unset, .unset, .unset] [(.int r11)])) (fun _ k => XS.iload X25.here hx rfl (hb hby at_183) rfl k) ?_
      refine Go.via (S' := T25.setTop (mkF m 194 #[.val (.long q1), .second, .val (.long q2), .second, .val (.int p3), .val (.int p4), .val (.int p5), .val (.int p6), .val (.int r1), .val (.int r3), .val (.int r5), .val (.int r7), .val (.int r9), .val (.int r11), .val (.int k1), .val (.int k2), .val (.int k3), .val (.int m0), .val (.int m1), .val (.int m2), .val (.int m3), .val (.int m4), .unset, .unset, .unset, .unset, .unset, .unset, .unset, .unset, .unset, .unset, .unset] [(.int r11)])) (fun _ k => XS.goto X25.here hx rfl (pc0 := 185) (pc' := 194) rfl (hb hby at_185) (by decide) (by decide) k) ?_
      exact J194 T25 h25 _ r11 (X25.more (by decide) (by decide)) e25 N25 z25 fk25_0 hr11
  intro T28 h28 lo28 m5 X28 e28 N28 z28 fk28_0 hm5
  refine Go.via (S' := T28.setTop (mkF m 196 #[.val (.long q1), .second, .val (.long q2), .second, .val (.int p3), .val (.int p4), .val (.int p5), .val (.int p6), .val (.int r1), .val (.int r3), .val (.int r5), .val (.int r7), .val (.int r9), .val (.int r11), .val (.int k1), .val (.int k2), .val (.int k3), .val (.int m0), .val (.int m1), .val (.int m2), .val (.int m3), .val (.int m4), .val (.int m5), .unset, .unset, .unset, .unset, .unset, .unset, .unset, .unset, .unset, .unset] [])) (fun _ k => XS.istore X28.here hx rfl (hb hby at_194) rfl (l' := #[.val (.long q1), .second, .val (.long q2), .second, .val (.int p3), .val (.int p4), .val (.int p5), .val (.int p6), .val (.int r1), .val (.int r3), .val (.int r5), .val (.int r7), .val (.int r9), .val (.int r11), .val (.int k1), .val (.int k2), .val (.int k3), .val (.int m0), .val (.int m1), .val (.int m2), .val (.int m3), .val (.int m4), .val (.int m5), .unset, .unset, .unset, .unset, .unset, .unset, .unset, .unset, .unset, .unset]) rfl k) ?_
  suffices J211 : ∀ (qf : Int32), Go p e below s (Q0 Z q1 q2 p3 p4 p5 p6 G1 h0 n0) room_1.cells room_1.slots (T28.setTop (mkF m 211 #[.val (.long q1), .second, .val (.long q2), .second, .val (.int p3), .val (.int p4), .val (.int p5), .val (.int p6), .val (.int r1), .val (.int r3), .val (.int r5), .val (.int r7), .val (.int r9), .val (.int r11), .val (.int k1), .val (.int k2), .val (.int k3), .val (.int m0), .val (.int m1), .val (.int m2), .val (.int m3), .val (.int m4), .val (.int m5), .unset, .unset, .unset, .unset, .unset, .unset, .unset, .unset, .unset, .unset] [(.int qf)])) by
    refine Go.via (S' := T28.setTop (mkF m 198 #[.val (.long q1), .second, .val (.long q2), .second, .val (.int p3), .val (.int p4), .val (.int p5), .val (.int p6), .val (.int r1), .val (.int r3), .val (.int r5), .val (.int r7), .val (.int r9), .val (.int r11), .val (.int k1), .val (.int k2), .val (.int k3), .val (.int m0), .val (.int m1), .val (.int m2), .val (.int m3), .val (.int m4), .val (.int m5), .unset, .unset, .unset, .unset, .unset, .unset, .unset, .unset, .unset, .unset] [(.int p3)])) (fun _ k => XS.iload X28.here hx rfl (hb hby at_196) rfl k) ?_
    refine Go.via (S' := T28.setTop (mkF m 200 #[.val (.long q1), .second, .val (.long q2), .second, .val (.int p3), .val (.int p4), .val (.int p5), .val (.int p6), .val (.int r1), .val (.int r3), .val (.int r5), .val (.int r7), .val (.int r9), .val (.int r11), .val (.int k1), .val (.int k2), .val (.int k3), .val (.int m0), .val (.int m1), .val (.int m2), .val (.int m3), .val (.int m4), .val (.int m5), .unset, .unset, .unset, .unset, .unset, .unset, .unset, .unset, .unset, .unset] [(.int (8 : Int32)), (.int p3)])) (fun _ k => XS.bipush X28.here hx rfl (hb hby at_198) k) ?_
    refine Go.via (S' := T28.setTop (mkF m 201 #[.val (.long q1), .second, .val (.long q2), .second, .val (.int p3), .val (.int p4), .val (.int p5), .val (.int p6), .val (.int r1), .val (.int r3), .val (.int r5), .val (.int r7), .val (.int r9), .val (.int r11), .val (.int k1), .val (.int k2), .val (.int k3), .val (.int m0), .val (.int m1), .val (.int m2), .val (.int m3), .val (.int m4), .val (.int m5), .unset, .unset, .unset, .unset, .unset, .unset, .unset, .unset, .unset, .unset] [(.int (p3 &&& (8 : Int32)))])) (fun _ k => XS.iand X28.here hx rfl (hb hby at_200) rfl k) ?_
    rcases Decidable.em ((p3 &&& (8 : Int32)) = (0 : Int32)) with hc201 | hc201
    · refine Go.via (S' := T28.setTop (mkF m 209 #[.val (.long q1), .second, .val (.long q2), .second, .val (.int p3), .val (.int p4), .val (.int p5), .val (.int p6), .val (.int r1), .val (.int r3), .val (.int r5), .val (.int r7), .val (.int r9), .val (.int r11), .val (.int k1), .val (.int k2), .val (.int k3), .val (.int m0), .val (.int m1), .val (.int m2), .val (.int m3), .val (.int m4), .val (.int m5), .unset, .unset, .unset, .unset, .unset, .unset, .unset, .unset, .unset, .unset] [])) (fun _ k => XS.ifYes X28.here hx rfl (pc0 := 201) (pc' := 209) rfl (hb hby at_201) rfl ((if0 _ _).trans (teq hc201).1) (by decide) (by decide) k) ?_
      refine Go.via (S' := T28.setTop (mkF m 211 #[.val (.long q1), .second, .val (.long q2), .second, .val (.int p3), .val (.int p4), .val (.int p5), .val (.int p6), .val (.int r1), .val (.int r3), .val (.int r5), .val (.int r7), .val (.int r9), .val (.int r11), .val (.int k1), .val (.int k2), .val (.int k3), .val (.int m0), .val (.int m1), .val (.int m2), .val (.int m3), .val (.int m4), .val (.int m5), .unset, .unset, .unset, .unset, .unset, .unset, .unset, .unset, .unset, .unset] [(.int p6)])) (fun _ k => XS.iload X28.here hx rfl (hb hby at_209) rfl k) ?_
      exact J211 _
    · refine Go.via (S' := T28.setTop (mkF m 204 #[.val (.long q1), .second, .val (.long q2), .second, .val (.int p3), .val (.int p4), .val (.int p5), .val (.int p6), .val (.int r1), .val (.int r3), .val (.int r5), .val (.int r7), .val (.int r9), .val (.int r11), .val (.int k1), .val (.int k2), .val (.int k3), .val (.int m0), .val (.int m1), .val (.int m2), .val (.int m3), .val (.int m4), .val (.int m5), .unset, .unset, .unset, .unset, .unset, .unset, .unset, .unset, .unset, .unset] [])) (fun _ k => XS.ifNo X28.here hx rfl (hb hby at_201) rfl ((if0 _ _).trans (feq hc201).1) k) ?_
      refine Go.via (S' := T28.setTop (mkF m 206 #[.val (.long q1), .second, .val (.long q2), .second, .val (.int p3), .val (.int p4), .val (.int p5), .val (.int p6), .val (.int r1), .val (.int r3), .val (.int r5), .val (.int r7), .val (.int r9), .val (.int r11), .val (.int k1), .val (.int k2), .val (.int k3), .val (.int m0), .val (.int m1), .val (.int m2), .val (.int m3), .val (.int m4), .val (.int m5), .unset, .unset, .unset, .unset, .unset, .unset, .unset, .unset, .unset, .unset] [(.int p4)])) (fun _ k => XS.iload X28.here hx rfl (hb hby at_204) rfl k) ?_
      refine Go.via (S' := T28.setTop (mkF m 211 #[.val (.long q1), .second, .val (.long q2), .second, .val (.int p3), .val (.int p4), .val (.int p5), .val (.int p6), .val (.int r1), .val (.int r3), .val (.int r5), .val (.int r7), .val (.int r9), .val (.int r11), .val (.int k1), .val (.int k2), .val (.int k3), .val (.int m0), .val (.int m1), .val (.int m2), .val (.int m3), .val (.int m4), .val (.int m5), .unset, .unset, .unset, .unset, .unset, .unset, .unset, .unset, .unset, .unset] [(.int p4)])) (fun _ k => XS.goto X28.here hx rfl (pc0 := 206) (pc' := 211) rfl (hb hby at_206) (by decide) (by decide) k) ?_
      exact J211 _
  intro qf
  refine Go.via (S' := T28.setTop (mkF m 213 #[.val (.long q1), .second, .val (.long q2), .second, .val (.int p3), .val (.int p4), .val (.int p5), .val (.int p6), .val (.int r1), .val (.int r3), .val (.int r5), .val (.int r7), .val (.int r9), .val (.int r11), .val (.int k1), .val (.int k2), .val (.int k3), .val (.int m0), .val (.int m1), .val (.int m2), .val (.int m3), .val (.int m4), .val (.int m5), .val (.int qf), .unset, .unset, .unset, .unset, .unset, .unset, .unset, .unset, .unset] [])) (fun _ k => XS.istore X28.here hx rfl (hb hby at_211) rfl (l' := #[.val (.long q1), .second, .val (.long q2), .second, .val (.int p3), .val (.int p4), .val (.int p5), .val (.int p6), .val (.int r1), .val (.int r3), .val (.int r5), .val (.int r7), .val (.int r9), .val (.int r11), .val (.int k1), .val (.int k2), .val (.int k3), .val (.int m0), .val (.int m1), .val (.int m2), .val (.int m3), .val (.int m4), .val (.int m5), .val (.int qf), .unset, .unset, .unset, .unset, .unset, .unset, .unset, .unset, .unset]) rfl k) ?_
  suffices J228 : ∀ (ql : Int32), Go p e below s (Q0 Z q1 q2 p3 p4 p5 p6 G1 h0 n0) room_1.cells room_1.slots (T28.setTop (mkF m 228 #[.val (.long q1), .second, .val (.long q2), .second, .val (.int p3), .val (.int p4), .val (.int p5), .val (.int p6), .val (.int r1), .val (.int r3), .val (.int r5), .val (.int r7), .val (.int r9), .val (.int r11), .val (.int k1), .val (.int k2), .val (.int k3), .val (.int m0), .val (.int m1), .val (.int m2), .val (.int m3), .val (.int m4), .val (.int m5), .val (.int qf), .unset, .unset, .unset, .unset, .unset, .unset, .unset, .unset, .unset] [(.int ql)])) by
    refine Go.via (S' := T28.setTop (mkF m 215 #[.val (.long q1), .second, .val (.long q2), .second, .val (.int p3), .val (.int p4), .val (.int p5), .val (.int p6), .val (.int r1), .val (.int r3), .val (.int r5), .val (.int r7), .val (.int r9), .val (.int r11), .val (.int k1), .val (.int k2), .val (.int k3), .val (.int m0), .val (.int m1), .val (.int m2), .val (.int m3), .val (.int m4), .val (.int m5), .val (.int qf), .unset, .unset, .unset, .unset, .unset, .unset, .unset, .unset, .unset] [(.int p3)])) (fun _ k => XS.iload X28.here hx rfl (hb hby at_213) rfl k) ?_
    refine Go.via (S' := T28.setTop (mkF m 217 #[.val (.long q1), .second, .val (.long q2), .second, .val (.int p3), .val (.int p4), .val (.int p5), .val (.int p6), .val (.int r1), .val (.int r3), .val (.int r5), .val (.int r7), .val (.int r9), .val (.int r11), .val (.int k1), .val (.int k2), .val (.int k3), .val (.int m0), .val (.int m1), .val (.int m2), .val (.int m3), .val (.int m4), .val (.int m5), .val (.int qf), .unset, .unset, .unset, .unset, .unset, .unset, .unset, .unset, .unset] [(.int (16 : Int32)), (.int p3)])) (fun _ k => XS.bipush X28.here hx rfl (hb hby at_215) k) ?_
    refine Go.via (S' := T28.setTop (mkF m 218 #[.val (.long q1), .second, .val (.long q2), .second, .val (.int p3), .val (.int p4), .val (.int p5), .val (.int p6), .val (.int r1), .val (.int r3), .val (.int r5), .val (.int r7), .val (.int r9), .val (.int r11), .val (.int k1), .val (.int k2), .val (.int k3), .val (.int m0), .val (.int m1), .val (.int m2), .val (.int m3), .val (.int m4), .val (.int m5), .val (.int qf), .unset, .unset, .unset, .unset, .unset, .unset, .unset, .unset, .unset] [(.int (p3 &&& (16 : Int32)))])) (fun _ k => XS.iand X28.here hx rfl (hb hby at_217) rfl k) ?_
    rcases Decidable.em ((p3 &&& (16 : Int32)) = (0 : Int32)) with hc218 | hc218
    · refine Go.via (S' := T28.setTop (mkF m 226 #[.val (.long q1), .second, .val (.long q2), .second, .val (.int p3), .val (.int p4), .val (.int p5), .val (.int p6), .val (.int r1), .val (.int r3), .val (.int r5), .val (.int r7), .val (.int r9), .val (.int r11), .val (.int k1), .val (.int k2), .val (.int k3), .val (.int m0), .val (.int m1), .val (.int m2), .val (.int m3), .val (.int m4), .val (.int m5), .val (.int qf), .unset, .unset, .unset, .unset, .unset, .unset, .unset, .unset, .unset] [])) (fun _ k => XS.ifYes X28.here hx rfl (pc0 := 218) (pc' := 226) rfl (hb hby at_218) rfl ((if0 _ _).trans (teq hc218).1) (by decide) (by decide) k) ?_
      refine Go.via (S' := T28.setTop (mkF m 228 #[.val (.long q1), .second, .val (.long q2), .second, .val (.int p3), .val (.int p4), .val (.int p5), .val (.int p6), .val (.int r1), .val (.int r3), .val (.int r5), .val (.int r7), .val (.int r9), .val (.int r11), .val (.int k1), .val (.int k2), .val (.int k3), .val (.int m0), .val (.int m1), .val (.int m2), .val (.int m3), .val (.int m4), .val (.int m5), .val (.int qf), .unset, .unset, .unset, .unset, .unset, .unset, .unset, .unset, .unset] [(.int p6)])) (fun _ k => XS.iload X28.here hx rfl (hb hby at_226) rfl k) ?_
      exact J228 _
    · refine Go.via (S' := T28.setTop (mkF m 221 #[.val (.long q1), .second, .val (.long q2), .second, .val (.int p3), .val (.int p4), .val (.int p5), .val (.int p6), .val (.int r1), .val (.int r3), .val (.int r5), .val (.int r7), .val (.int r9), .val (.int r11), .val (.int k1), .val (.int k2), .val (.int k3), .val (.int m0), .val (.int m1), .val (.int m2), .val (.int m3), .val (.int m4), .val (.int m5), .val (.int qf), .unset, .unset, .unset, .unset, .unset, .unset, .unset, .unset, .unset] [])) (fun _ k => XS.ifNo X28.here hx rfl (hb hby at_218) rfl ((if0 _ _).trans (feq hc218).1) k) ?_
      refine Go.via (S' := T28.setTop (mkF m 223 #[.val (.long q1), .second, .val (.long q2), .second, .val (.int p3), .val (.int p4), .val (.int p5), .val (.int p6), .val (.int r1), .val (.int r3), .val (.int r5), .val (.int r7), .val (.int r9), .val (.int r11), .val (.int k1), .val (.int k2), .val (.int k3), .val (.int m0), .val (.int m1), .val (.int m2), .val (.int m3), .val (.int m4), .val (.int m5), .val (.int qf), .unset, .unset, .unset, .unset, .unset, .unset, .unset, .unset, .unset] [(.int p5)])) (fun _ k => XS.iload X28.here hx rfl (hb hby at_221) rfl k) ?_
      refine Go.via (S' := T28.setTop (mkF m 228 #[.val (.long q1), .second, .val (.long q2), .second, .val (.int p3), .val (.int p4), .val (.int p5), .val (.int p6), .val (.int r1), .val (.int r3), .val (.int r5), .val (.int r7), .val (.int r9), .val (.int r11), .val (.int k1), .val (.int k2), .val (.int k3), .val (.int m0), .val (.int m1), .val (.int m2), .val (.int m3), .val (.int m4), .val (.int m5), .val (.int qf), .unset, .unset, .unset, .unset, .unset, .unset, .unset, .unset, .unset] [(.int p5)])) (fun _ k => XS.goto X28.here hx rfl (pc0 := 223) (pc' := 228) rfl (hb hby at_223) (by decide) (by decide) k) ?_
      exact J228 _
  intro ql
  refine Go.via (S' := T28.setTop (mkF m 230 #[.val (.long q1), .second, .val (.long q2), .second, .val (.int p3), .val (.int p4), .val (.int p5), .val (.int p6), .val (.int r1), .val (.int r3), .val (.int r5), .val (.int r7), .val (.int r9), .val (.int r11), .val (.int k1), .val (.int k2), .val (.int k3), .val (.int m0), .val (.int m1), .val (.int m2), .val (.int m3), .val (.int m4), .val (.int m5), .val (.int qf), .val (.int ql), .unset, .unset, .unset, .unset, .unset, .unset, .unset, .unset] [])) (fun _ k => XS.istore X28.here hx rfl (hb hby at_228) rfl (l' := #[.val (.long q1), .second, .val (.long q2), .second, .val (.int p3), .val (.int p4), .val (.int p5), .val (.int p6), .val (.int r1), .val (.int r3), .val (.int r5), .val (.int r7), .val (.int r9), .val (.int r11), .val (.int k1), .val (.int k2), .val (.int k3), .val (.int m0), .val (.int m1), .val (.int m2), .val (.int m3), .val (.int m4), .val (.int m5), .val (.int qf), .val (.int ql), .unset, .unset, .unset, .unset, .unset, .unset, .unset, .unset]) rfl k) ?_
  obtain ⟨T31, h31, X31, e31, E31, A31, D31, -, st31⟩ := newO X28 hx hZ hown (hw _ (List.mem_of_getElem? (i := 5) rfl)) (hw _ (List.mem_of_getElem? (i := 6) rfl)) (hw _ (List.mem_of_getElem? (i := 7) rfl)) e28 (g := (mkF m 230 #[.val (.long q1), .second, .val (.long q2), .second, .val (.int p3), .val (.int p4), .val (.int p5), .val (.int p6), .val (.int r1), .val (.int r3), .val (.int r5), .val (.int r7), .val (.int r9), .val (.int r11), .val (.int k1), .val (.int k2), .val (.int k3), .val (.int m0), .val (.int m1), .val (.int m2), .val (.int m3), .val (.int m4), .val (.int m5), .val (.int qf), .val (.int ql), .unset, .unset, .unset, .unset, .unset, .unset, .unset, .unset] [])) rfl (hb hby at_230) (by decide) (by decide)
  obtain ⟨b31, g31⟩ : ∃ z, z = h28.size := ⟨_, rfl⟩
  rw [← g31] at A31 D31 st31
  have g32 : n0 ≤ b31 := Nat.le_trans z28 (Nat.le_of_eq g31.symm)
  have f33 := fk28_0.ext E31
  have z34 := Nat.le_trans z28 E31.1
  have F35 : Fld Z h31 b31 "com/example/amendatory/amendatory/Provision" "number" "Ljava/lang/String;" .null := D31 (Or.inr (hw _ (List.mem_of_getElem? (i := 46) rfl))) (ty := (.object "java/lang/String")) (by decide)
  have F36 : Fld Z h31 b31 "com/example/amendatory/amendatory/Provision" "designation" "Ljava/lang/String;" .null := D31 (Or.inr (hw _ (List.mem_of_getElem? (i := 48) rfl))) (ty := (.object "java/lang/String")) (by decide)
  have F37 : Fld Z h31 b31 "com/example/amendatory/amendatory/Provision" "opening" "Ljava/lang/String;" .null := D31 (Or.inr (hw _ (List.mem_of_getElem? (i := 50) rfl))) (ty := (.object "java/lang/String")) (by decide)
  have F38 : Fld Z h31 b31 "com/example/amendatory/amendatory/Provision" "firstLine" "I" (.int (0 : Int32)) := D31 (Or.inr (hw _ (List.mem_of_getElem? (i := 52) rfl))) (ty := .int) (by decide)
  have F39 : Fld Z h31 b31 "com/example/amendatory/amendatory/Provision" "lastLine" "I" (.int (0 : Int32)) := D31 (Or.inr (hw _ (List.mem_of_getElem? (i := 54) rfl))) (ty := .int) (by decide)
  refine Go.via (S' := T31.setTop (mkF m 233 #[.val (.long q1), .second, .val (.long q2), .second, .val (.int p3), .val (.int p4), .val (.int p5), .val (.int p6), .val (.int r1), .val (.int r3), .val (.int r5), .val (.int r7), .val (.int r9), .val (.int r11), .val (.int k1), .val (.int k2), .val (.int k3), .val (.int m0), .val (.int m1), .val (.int m2), .val (.int m3), .val (.int m4), .val (.int m5), .val (.int qf), .val (.int ql), .unset, .unset, .unset, .unset, .unset, .unset, .unset, .unset] [(.ref b31)])) (fun _ k => st31 _ k) ?_
  refine Go.via (S' := T31.setTop (mkF m 234 #[.val (.long q1), .second, .val (.long q2), .second, .val (.int p3), .val (.int p4), .val (.int p5), .val (.int p6), .val (.int r1), .val (.int r3), .val (.int r5), .val (.int r7), .val (.int r9), .val (.int r11), .val (.int k1), .val (.int k2), .val (.int k3), .val (.int m0), .val (.int m1), .val (.int m2), .val (.int m3), .val (.int m4), .val (.int m5), .val (.int qf), .val (.int ql), .unset, .unset, .unset, .unset, .unset, .unset, .unset, .unset] [(.ref b31), (.ref b31)])) (fun _ k => XS.dup X31.here hx rfl (hb hby at_233) rfl rfl k) ?_
  refine Go.via (S' := T31.setTop (mkF m 236 #[.val (.long q1), .second, .val (.long q2), .second, .val (.int p3), .val (.int p4), .val (.int p5), .val (.int p6), .val (.int r1), .val (.int r3), .val (.int r5), .val (.int r7), .val (.int r9), .val (.int r11), .val (.int k1), .val (.int k2), .val (.int k3), .val (.int m0), .val (.int m1), .val (.int m2), .val (.int m3), .val (.int m4), .val (.int m5), .val (.int qf), .val (.int ql), .unset, .unset, .unset, .unset, .unset, .unset, .unset, .unset] [(.int r1), (.ref b31), (.ref b31)])) (fun _ k => XS.iload X31.here hx rfl (hb hby at_234) rfl k) ?_
  refine Go.via (S' := T31.setTop (mkF m 238 #[.val (.long q1), .second, .val (.long q2), .second, .val (.int p3), .val (.int p4), .val (.int p5), .val (.int p6), .val (.int r1), .val (.int r3), .val (.int r5), .val (.int r7), .val (.int r9), .val (.int r11), .val (.int k1), .val (.int k2), .val (.int k3), .val (.int m0), .val (.int m1), .val (.int m2), .val (.int m3), .val (.int m4), .val (.int m5), .val (.int qf), .val (.int ql), .unset, .unset, .unset, .unset, .unset, .unset, .unset, .unset] [(.int r3), (.int r1), (.ref b31), (.ref b31)])) (fun _ k => XS.iload X31.here hx rfl (hb hby at_236) rfl k) ?_
  obtain ⟨_, _, ⟨T40, L40, k40, n40⟩, -, X40, ⟨Lc40, hQ40, l40, y40, z40⟩, st40⟩ := Jvm.LawKit.callS X31 hx (y := (⟨"com/example/amendatory/amendatory/ProvisionEqualsPinLaw", "two", "(CC)Ljava/lang/String;"⟩ : MethodName)) hown (mvT hZ (hw _ (List.mem_of_getElem? (i := 8) rfl))) (mvT hZ (hw _ (List.mem_of_getElem? (i := 9) rfl))) (mvT hZ (hw _ (List.mem_of_getElem? (i := 2) rfl))) (mvT hZ (hw _ (List.mem_of_getElem? (i := 10) rfl))) (by decide) (backOf (W := 2) (rm2 l Z a0 hw [] r1 r3 G1 h31 n0 z34 f33 O2 P5 hr1 hr3) hZ (hw _ (List.mem_of_getElem? (i := 10) rfl)) (hw _ (List.mem_of_getElem? (i := 2) rfl)) (by decide) (by decide)) (g := (mkF m 238 #[.val (.long q1), .second, .val (.long q2), .second, .val (.int p3), .val (.int p4), .val (.int p5), .val (.int p6), .val (.int r1), .val (.int r3), .val (.int r5), .val (.int r7), .val (.int r9), .val (.int r11), .val (.int k1), .val (.int k2), .val (.int k3), .val (.int m0), .val (.int m1), .val (.int m2), .val (.int m3), .val (.int m4), .val (.int m5), .val (.int qf), .val (.int ql), .unset, .unset, .unset, .unset, .unset, .unset, .unset, .unset] [(.int r3), (.int r1), (.ref b31), (.ref b31)])) rfl (by rw [hml]; rfl) (argsL := [(.int r1), (.int r3)]) (rest := [(.ref b31), (.ref b31)]) (lenOf pd_3 rfl) rfl (by show 2 * 0 + _ ≤ _; exact Nat.le_of_eq rfl) (hb hby at_238) (fun _ _ => ⟨rfl, e31, (by decide : 1 + 3 ≤ _), (by decide : 5 + 8 ≤ _)⟩)
  dsimp only [Pt.U, Pt.locs, Pt.cells, Pt.slots] at X40 l40 y40 z40 st40 hQ40
  subst l40 y40 z40
  obtain ⟨r40, t40, rfl, N40q, K40, u140, u240, S40⟩ := hQ40
  have N41 := Fr.app N28 N40q
  have f42 := f33.keep K40 all0
  have f43 := A31.keep K40
  have f44 := F35.keep K40 nin0
  have f45 := F36.keep K40 nin0
  have f46 := F37.keep K40 nin0
  have f47 := F38.keep K40 nin0
  have f48 := F39.keep K40 nin0
  have z49 := Nat.le_trans z34 K40.1
  refine Go.via (S' := T40.setTop (mkF m 241 #[.val (.long q1), .second, .val (.long q2), .second, .val (.int p3), .val (.int p4), .val (.int p5), .val (.int p6), .val (.int r1), .val (.int r3), .val (.int r5), .val (.int r7), .val (.int r9), .val (.int r11), .val (.int k1), .val (.int k2), .val (.int k3), .val (.int m0), .val (.int m1), .val (.int m2), .val (.int m3), .val (.int m4), .val (.int m5), .val (.int qf), .val (.int ql), .unset, .unset, .unset, .unset, .unset, .unset, .unset, .unset] [(.ref r40), (.ref b31), (.ref b31)])) (fun _ k => st40 _ k) ?_
  have ne50 : b31 ≠ r40 := Nat.ne_of_lt (Nat.lt_of_lt_of_le A31.lt u140)
  have ne51 : b31 ≠ t40 := Nat.ne_of_lt (Nat.lt_of_lt_of_le A31.lt u240)
  refine Go.via (S' := T40.setTop (mkF m 243 #[.val (.long q1), .second, .val (.long q2), .second, .val (.int p3), .val (.int p4), .val (.int p5), .val (.int p6), .val (.int r1), .val (.int r3), .val (.int r5), .val (.int r7), .val (.int r9), .val (.int r11), .val (.int k1), .val (.int k2), .val (.int k3), .val (.int m0), .val (.int m1), .val (.int m2), .val (.int m3), .val (.int m4), .val (.int m5), .val (.int qf), .val (.int ql), .unset, .unset, .unset, .unset, .unset, .unset, .unset, .unset] [(.int r5), (.ref r40), (.ref b31), (.ref b31)])) (fun _ k => XS.iload X40.here hx rfl (hb hby at_241) rfl k) ?_
  refine Go.via (S' := T40.setTop (mkF m 245 #[.val (.long q1), .second, .val (.long q2), .second, .val (.int p3), .val (.int p4), .val (.int p5), .val (.int p6), .val (.int r1), .val (.int r3), .val (.int r5), .val (.int r7), .val (.int r9), .val (.int r11), .val (.int k1), .val (.int k2), .val (.int k3), .val (.int m0), .val (.int m1), .val (.int m2), .val (.int m3), .val (.int m4), .val (.int m5), .val (.int qf), .val (.int ql), .unset, .unset, .unset, .unset, .unset, .unset, .unset, .unset] [(.int r7), (.int r5), (.ref r40), (.ref b31), (.ref b31)])) (fun _ k => XS.iload X40.here hx rfl (hb hby at_243) rfl k) ?_
  obtain ⟨_, _, ⟨T52, L52, k52, n52⟩, -, X52, ⟨Lc52, hQ52, l52, y52, z52⟩, st52⟩ := Jvm.LawKit.callS X40 hx (y := (⟨"com/example/amendatory/amendatory/ProvisionEqualsPinLaw", "two", "(CC)Ljava/lang/String;"⟩ : MethodName)) hown (mvT hZ (hw _ (List.mem_of_getElem? (i := 8) rfl))) (mvT hZ (hw _ (List.mem_of_getElem? (i := 9) rfl))) (mvT hZ (hw _ (List.mem_of_getElem? (i := 2) rfl))) (mvT hZ (hw _ (List.mem_of_getElem? (i := 10) rfl))) (by decide) (backOf (W := 3) (rm2 l Z a0 hw [] r5 r7 G1 T40.heap n0 z49 f42 O2 P5 hr5 hr7) hZ (hw _ (List.mem_of_getElem? (i := 10) rfl)) (hw _ (List.mem_of_getElem? (i := 2) rfl)) (by decide) (by decide)) (g := (mkF m 245 #[.val (.long q1), .second, .val (.long q2), .second, .val (.int p3), .val (.int p4), .val (.int p5), .val (.int p6), .val (.int r1), .val (.int r3), .val (.int r5), .val (.int r7), .val (.int r9), .val (.int r11), .val (.int k1), .val (.int k2), .val (.int k3), .val (.int m0), .val (.int m1), .val (.int m2), .val (.int m3), .val (.int m4), .val (.int m5), .val (.int qf), .val (.int ql), .unset, .unset, .unset, .unset, .unset, .unset, .unset, .unset] [(.int r7), (.int r5), (.ref r40), (.ref b31), (.ref b31)])) rfl (by rw [hml]; rfl) (argsL := [(.int r5), (.int r7)]) (rest := [(.ref r40), (.ref b31), (.ref b31)]) (lenOf pd_3 rfl) rfl (by show 2 * 0 + _ ≤ _; exact Nat.le_of_eq rfl) (hb hby at_245) (fun _ _ => ⟨rfl, rfl, (by decide : 4 + 3 ≤ _), (by decide : 13 + 8 ≤ _)⟩)
  dsimp only [Pt.U, Pt.locs, Pt.cells, Pt.slots] at X52 l52 y52 z52 st52 hQ52
  subst l52 y52 z52
  obtain ⟨r52, t52, rfl, N52q, K52, u152, u252, S52⟩ := hQ52
  have N53 := Fr.app N41 N52q
  have f54 := f42.keep K52 all0
  have f55 := f43.keep K52
  have f56 := f44.keep K52 nin0
  have f57 := f45.keep K52 nin0
  have f58 := f46.keep K52 nin0
  have f59 := f47.keep K52 nin0
  have f60 := f48.keep K52 nin0
  have f61 := S40.keep K52 nin0 nin0
  have z62 := Nat.le_trans z49 K52.1
  refine Go.via (S' := T52.setTop (mkF m 248 #[.val (.long q1), .second, .val (.long q2), .second, .val (.int p3), .val (.int p4), .val (.int p5), .val (.int p6), .val (.int r1), .val (.int r3), .val (.int r5), .val (.int r7), .val (.int r9), .val (.int r11), .val (.int k1), .val (.int k2), .val (.int k3), .val (.int m0), .val (.int m1), .val (.int m2), .val (.int m3), .val (.int m4), .val (.int m5), .val (.int qf), .val (.int ql), .unset, .unset, .unset, .unset, .unset, .unset, .unset, .unset] [(.ref r52), (.ref r40), (.ref b31), (.ref b31)])) (fun _ k => st52 _ k) ?_
  have ne63 : b31 ≠ r52 := Nat.ne_of_lt (Nat.lt_of_lt_of_le f43.lt u152)
  have ne64 : r40 ≠ r52 := Nat.ne_of_lt (Nat.lt_of_lt_of_le S40.lt u152)
  have ne65 : t40 ≠ r52 := Nat.ne_of_lt (Nat.lt_of_lt_of_le S40.lt2 u152)
  have ne66 : b31 ≠ t52 := Nat.ne_of_lt (Nat.lt_of_lt_of_le f43.lt u252)
  have ne67 : r40 ≠ t52 := Nat.ne_of_lt (Nat.lt_of_lt_of_le S40.lt u252)
  have ne68 : t40 ≠ t52 := Nat.ne_of_lt (Nat.lt_of_lt_of_le S40.lt2 u252)
  refine Go.via (S' := T52.setTop (mkF m 250 #[.val (.long q1), .second, .val (.long q2), .second, .val (.int p3), .val (.int p4), .val (.int p5), .val (.int p6), .val (.int r1), .val (.int r3), .val (.int r5), .val (.int r7), .val (.int r9), .val (.int r11), .val (.int k1), .val (.int k2), .val (.int k3), .val (.int m0), .val (.int m1), .val (.int m2), .val (.int m3), .val (.int m4), .val (.int m5), .val (.int qf), .val (.int ql), .unset, .unset, .unset, .unset, .unset, .unset, .unset, .unset] [(.int r9), (.ref r52), (.ref r40), (.ref b31), (.ref b31)])) (fun _ k => XS.iload X52.here hx rfl (hb hby at_248) rfl k) ?_
  refine Go.via (S' := T52.setTop (mkF m 252 #[.val (.long q1), .second, .val (.long q2), .second, .val (.int p3), .val (.int p4), .val (.int p5), .val (.int p6), .val (.int r1), .val (.int r3), .val (.int r5), .val (.int r7), .val (.int r9), .val (.int r11), .val (.int k1), .val (.int k2), .val (.int k3), .val (.int m0), .val (.int m1), .val (.int m2), .val (.int m3), .val (.int m4), .val (.int m5), .val (.int qf), .val (.int ql), .unset, .unset, .unset, .unset, .unset, .unset, .unset, .unset] [(.int r11), (.int r9), (.ref r52), (.ref r40), (.ref b31), (.ref b31)])) (fun _ k => XS.iload X52.here hx rfl (hb hby at_250) rfl k) ?_
  obtain ⟨_, _, ⟨T69, L69, k69, n69⟩, -, X69, ⟨Lc69, hQ69, l69, y69, z69⟩, st69⟩ := Jvm.LawKit.callS X52 hx (y := (⟨"com/example/amendatory/amendatory/ProvisionEqualsPinLaw", "two", "(CC)Ljava/lang/String;"⟩ : MethodName)) hown (mvT hZ (hw _ (List.mem_of_getElem? (i := 8) rfl))) (mvT hZ (hw _ (List.mem_of_getElem? (i := 9) rfl))) (mvT hZ (hw _ (List.mem_of_getElem? (i := 2) rfl))) (mvT hZ (hw _ (List.mem_of_getElem? (i := 10) rfl))) (by decide) (backOf (W := 4) (rm2 l Z a0 hw [] r9 r11 G1 T52.heap n0 z62 f54 O2 P5 hr9 hr11) hZ (hw _ (List.mem_of_getElem? (i := 10) rfl)) (hw _ (List.mem_of_getElem? (i := 2) rfl)) (by decide) (by decide)) (g := (mkF m 252 #[.val (.long q1), .second, .val (.long q2), .second, .val (.int p3), .val (.int p4), .val (.int p5), .val (.int p6), .val (.int r1), .val (.int r3), .val (.int r5), .val (.int r7), .val (.int r9), .val (.int r11), .val (.int k1), .val (.int k2), .val (.int k3), .val (.int m0), .val (.int m1), .val (.int m2), .val (.int m3), .val (.int m4), .val (.int m5), .val (.int qf), .val (.int ql), .unset, .unset, .unset, .unset, .unset, .unset, .unset, .unset] [(.int r11), (.int r9), (.ref r52), (.ref r40), (.ref b31), (.ref b31)])) rfl (by rw [hml]; rfl) (argsL := [(.int r9), (.int r11)]) (rest := [(.ref r52), (.ref r40), (.ref b31), (.ref b31)]) (lenOf pd_3 rfl) rfl (by show 2 * 0 + _ ≤ _; exact Nat.le_of_eq rfl) (hb hby at_252) (fun _ _ => ⟨rfl, rfl, (by decide : 7 + 3 ≤ _), (by decide : 21 + 8 ≤ _)⟩)
  dsimp only [Pt.U, Pt.locs, Pt.cells, Pt.slots] at X69 l69 y69 z69 st69 hQ69
  subst l69 y69 z69
  obtain ⟨r69, t69, rfl, N69q, K69, u169, u269, S69⟩ := hQ69
  have N70 := Fr.app N53 N69q
  have f71 := f54.keep K69 all0
  have f72 := f55.keep K69
  have f73 := f56.keep K69 nin0
  have f74 := f57.keep K69 nin0
  have f75 := f58.keep K69 nin0
  have f76 := f59.keep K69 nin0
  have f77 := f60.keep K69 nin0
  have f78 := f61.keep K69 nin0 nin0
  have f79 := S52.keep K69 nin0 nin0
  have z80 := Nat.le_trans z62 K69.1
  refine Go.via (S' := T69.setTop (mkF m 255 #[.val (.long q1), .second, .val (.long q2), .second, .val (.int p3), .val (.int p4), .val (.int p5), .val (.int p6), .val (.int r1), .val (.int r3), .val (.int r5), .val (.int r7), .val (.int r9), .val (.int r11), .val (.int k1), .val (.int k2), .val (.int k3), .val (.int m0), .val (.int m1), .val (.int m2), .val (.int m3), .val (.int m4), .val (.int m5), .val (.int qf), .val (.int ql), .unset, .unset, .unset, .unset, .unset, .unset, .unset, .unset] [(.ref r69), (.ref r52), (.ref r40), (.ref b31), (.ref b31)])) (fun _ k => st69 _ k) ?_
  have ne81 : b31 ≠ r69 := Nat.ne_of_lt (Nat.lt_of_lt_of_le f55.lt u169)
  have ne82 : r40 ≠ r69 := Nat.ne_of_lt (Nat.lt_of_lt_of_le f61.lt u169)
  have ne83 : r52 ≠ r69 := Nat.ne_of_lt (Nat.lt_of_lt_of_le S52.lt u169)
  have ne84 : t40 ≠ r69 := Nat.ne_of_lt (Nat.lt_of_lt_of_le f61.lt2 u169)
  have ne85 : t52 ≠ r69 := Nat.ne_of_lt (Nat.lt_of_lt_of_le S52.lt2 u169)
  have ne86 : b31 ≠ t69 := Nat.ne_of_lt (Nat.lt_of_lt_of_le f55.lt u269)
  have ne87 : r40 ≠ t69 := Nat.ne_of_lt (Nat.lt_of_lt_of_le f61.lt u269)
  have ne88 : r52 ≠ t69 := Nat.ne_of_lt (Nat.lt_of_lt_of_le S52.lt u269)
  have ne89 : t40 ≠ t69 := Nat.ne_of_lt (Nat.lt_of_lt_of_le f61.lt2 u269)
  have ne90 : t52 ≠ t69 := Nat.ne_of_lt (Nat.lt_of_lt_of_le S52.lt2 u269)
  refine Go.via (S' := T69.setTop (mkF m 257 #[.val (.long q1), .second, .val (.long q2), .second, .val (.int p3), .val (.int p4), .val (.int p5), .val (.int p6), .val (.int r1), .val (.int r3), .val (.int r5), .val (.int r7), .val (.int r9), .val (.int r11), .val (.int k1), .val (.int k2), .val (.int k3), .val (.int m0), .val (.int m1), .val (.int m2), .val (.int m3), .val (.int m4), .val (.int m5), .val (.int qf), .val (.int ql), .unset, .unset, .unset, .unset, .unset, .unset, .unset, .unset] [(.int p4), (.ref r69), (.ref r52), (.ref r40), (.ref b31), (.ref b31)])) (fun _ k => XS.iload X69.here hx rfl (hb hby at_255) rfl k) ?_
  refine Go.via (S' := T69.setTop (mkF m 259 #[.val (.long q1), .second, .val (.long q2), .second, .val (.int p3), .val (.int p4), .val (.int p5), .val (.int p6), .val (.int r1), .val (.int r3), .val (.int r5), .val (.int r7), .val (.int r9), .val (.int r11), .val (.int k1), .val (.int k2), .val (.int k3), .val (.int m0), .val (.int m1), .val (.int m2), .val (.int m3), .val (.int m4), .val (.int m5), .val (.int qf), .val (.int ql), .unset, .unset, .unset, .unset, .unset, .unset, .unset, .unset] [(.int p5), (.int p4), (.ref r69), (.ref r52), (.ref r40), (.ref b31), (.ref b31)])) (fun _ k => XS.iload X69.here hx rfl (hb hby at_257) rfl k) ?_
  obtain ⟨_, _, ⟨T91, L91, k91, n91⟩, -, X91, ⟨Lc91, hQ91, l91, y91, z91⟩, st91⟩ := X69.specialBack hx (y := (⟨"com/example/amendatory/amendatory/Provision", "<init>", "(Ljava/lang/String;Ljava/lang/String;Ljava/lang/String;II)V"⟩ : MethodName)) rfl hown (mvT hZ (hw _ (List.mem_of_getElem? (i := 41) rfl))) (mvT hZ (hw _ (List.mem_of_getElem? (i := 42) rfl))) (mvT hZ (hw _ (List.mem_of_getElem? (i := 43) rfl))) (by decide) (backOf (W := 1) (rm9 l Z a0 hw [] b31 r40 r52 r69 p4 p5 T69.heap n0 z80 f72 f73 f74 f75 f76 f77 g32) hZ (hw _ (List.mem_of_getElem? (i := 43) rfl)) (hw _ (List.mem_of_getElem? (i := 7) rfl)) (by decide) (by decide)) (g := (mkF m 259 #[.val (.long q1), .second, .val (.long q2), .second, .val (.int p3), .val (.int p4), .val (.int p5), .val (.int p6), .val (.int r1), .val (.int r3), .val (.int r5), .val (.int r7), .val (.int r9), .val (.int r11), .val (.int k1), .val (.int k2), .val (.int k3), .val (.int m0), .val (.int m1), .val (.int m2), .val (.int m3), .val (.int m4), .val (.int m5), .val (.int qf), .val (.int ql), .unset, .unset, .unset, .unset, .unset, .unset, .unset, .unset] [(.int p5), (.int p4), (.ref r69), (.ref r52), (.ref r40), (.ref b31), (.ref b31)])) rfl (by rw [hml]; rfl) (Steps.refl _) (a := b31) (argsL := [(.ref r40), (.ref r52), (.ref r69), (.int p4), (.int p5)]) (rest := [(.ref b31)]) (lenOf pd_4 rfl) rfl (by show 2 * 0 + _ ≤ _; exact Nat.le_of_eq rfl) (hb hby at_259) (fun _ _ => ⟨rfl, rfl, (by decide : 10 + 0 ≤ _), (by decide : 29 + 0 ≤ _)⟩)
  dsimp only [Pt.U, Pt.locs, Pt.cells, Pt.slots] at X91 l91 y91 z91 st91 hQ91
  subst l91 y91 z91
  obtain ⟨rfl, N91q, K91, F_number91, F_designation91, F_opening91, F_firstLine91, F_lastLine91⟩ := hQ91
  have N92 := Fr.app N70 N91q
  have f93 := f71.keep K91 (allS g32 all0)
  have f94 := f72.keep K91
  have f95 := f78.keep K91 (ninS (Ne.symm ne50) nin0) (ninS (Ne.symm ne51) nin0)
  have f96 := f79.keep K91 (ninS (Ne.symm ne63) nin0) (ninS (Ne.symm ne66) nin0)
  have f97 := S69.keep K91 (ninS (Ne.symm ne81) nin0) (ninS (Ne.symm ne86) nin0)
  have z98 := Nat.le_trans z80 K91.1
  refine Go.via (S' := T91.setTop (mkF m 262 #[.val (.long q1), .second, .val (.long q2), .second, .val (.int p3), .val (.int p4), .val (.int p5), .val (.int p6), .val (.int r1), .val (.int r3), .val (.int r5), .val (.int r7), .val (.int r9), .val (.int r11), .val (.int k1), .val (.int k2), .val (.int k3), .val (.int m0), .val (.int m1), .val (.int m2), .val (.int m3), .val (.int m4), .val (.int m5), .val (.int qf), .val (.int ql), .unset, .unset, .unset, .unset, .unset, .unset, .unset, .unset] [(.ref b31)])) (fun _ k => st91.trans k) ?_
  refine Go.via (S' := T91.setTop (mkF m 264 #[.val (.long q1), .second, .val (.long q2), .second, .val (.int p3), .val (.int p4), .val (.int p5), .val (.int p6), .val (.int r1), .val (.int r3), .val (.int r5), .val (.int r7), .val (.int r9), .val (.int r11), .val (.int k1), .val (.int k2), .val (.int k3), .val (.int m0), .val (.int m1), .val (.int m2), .val (.int m3), .val (.int m4), .val (.int m5), .val (.int qf), .val (.int ql), .val (.ref b31), .unset, .unset, .unset, .unset, .unset, .unset, .unset] [])) (fun _ k => XS.astore X91.here hx rfl (hb hby at_262) rfl rfl (l' := #[.val (.long q1), .second, .val (.long q2), .second, .val (.int p3), .val (.int p4), .val (.int p5), .val (.int p6), .val (.int r1), .val (.int r3), .val (.int r5), .val (.int r7), .val (.int r9), .val (.int r11), .val (.int k1), .val (.int k2), .val (.int k3), .val (.int m0), .val (.int m1), .val (.int m2), .val (.int m3), .val (.int m4), .val (.int m5), .val (.int qf), .val (.int ql), .val (.ref b31), .unset, .unset, .unset, .unset, .unset, .unset, .unset]) rfl k) ?_
  obtain ⟨T99, h99, X99, e99, E99, A99, D99, -, st99⟩ := newO X91 hx hZ hown (hw _ (List.mem_of_getElem? (i := 5) rfl)) (hw _ (List.mem_of_getElem? (i := 6) rfl)) (hw _ (List.mem_of_getElem? (i := 7) rfl)) rfl (g := (mkF m 264 #[.val (.long q1), .second, .val (.long q2), .second, .val (.int p3), .val (.int p4), .val (.int p5), .val (.int p6), .val (.int r1), .val (.int r3), .val (.int r5), .val (.int r7), .val (.int r9), .val (.int r11), .val (.int k1), .val (.int k2), .val (.int k3), .val (.int m0), .val (.int m1), .val (.int m2), .val (.int m3), .val (.int m4), .val (.int m5), .val (.int qf), .val (.int ql), .val (.ref b31), .unset, .unset, .unset, .unset, .unset, .unset, .unset] [])) rfl (hb hby at_264) (by decide) (by decide)
  obtain ⟨b99, g99⟩ : ∃ z, z = T91.heap.size := ⟨_, rfl⟩
  rw [← g99] at A99 D99 st99
  have ne100 : b31 ≠ b99 := Nat.ne_of_lt (Nat.lt_of_lt_of_le f94.lt (Nat.le_of_eq g99.symm))
  have ne101 : r40 ≠ b99 := Nat.ne_of_lt (Nat.lt_of_lt_of_le f95.lt (Nat.le_of_eq g99.symm))
  have ne102 : r52 ≠ b99 := Nat.ne_of_lt (Nat.lt_of_lt_of_le f96.lt (Nat.le_of_eq g99.symm))
  have ne103 : r69 ≠ b99 := Nat.ne_of_lt (Nat.lt_of_lt_of_le f97.lt (Nat.le_of_eq g99.symm))
  have ne104 : t40 ≠ b99 := Nat.ne_of_lt (Nat.lt_of_lt_of_le f95.lt2 (Nat.le_of_eq g99.symm))
  have ne105 : t52 ≠ b99 := Nat.ne_of_lt (Nat.lt_of_lt_of_le f96.lt2 (Nat.le_of_eq g99.symm))
  have ne106 : t69 ≠ b99 := Nat.ne_of_lt (Nat.lt_of_lt_of_le f97.lt2 (Nat.le_of_eq g99.symm))
  have g107 : n0 ≤ b99 := Nat.le_trans z98 (Nat.le_of_eq g99.symm)
  have f108 := f93.ext E99
  have f109 := f94.ext E99
  have f110 := f95.ext E99
  have f111 := f96.ext E99
  have f112 := f97.ext E99
  have f113 := F_number91.ext E99
  have f114 := F_designation91.ext E99
  have f115 := F_opening91.ext E99
  have f116 := F_firstLine91.ext E99
  have f117 := F_lastLine91.ext E99
  have z118 := Nat.le_trans z98 E99.1
  have F119 : Fld Z h99 b99 "com/example/amendatory/amendatory/Provision" "number" "Ljava/lang/String;" .null := D99 (Or.inr (hw _ (List.mem_of_getElem? (i := 46) rfl))) (ty := (.object "java/lang/String")) (by decide)
  have F120 : Fld Z h99 b99 "com/example/amendatory/amendatory/Provision" "designation" "Ljava/lang/String;" .null := D99 (Or.inr (hw _ (List.mem_of_getElem? (i := 48) rfl))) (ty := (.object "java/lang/String")) (by decide)
  have F121 : Fld Z h99 b99 "com/example/amendatory/amendatory/Provision" "opening" "Ljava/lang/String;" .null := D99 (Or.inr (hw _ (List.mem_of_getElem? (i := 50) rfl))) (ty := (.object "java/lang/String")) (by decide)
  have F122 : Fld Z h99 b99 "com/example/amendatory/amendatory/Provision" "firstLine" "I" (.int (0 : Int32)) := D99 (Or.inr (hw _ (List.mem_of_getElem? (i := 52) rfl))) (ty := .int) (by decide)
  have F123 : Fld Z h99 b99 "com/example/amendatory/amendatory/Provision" "lastLine" "I" (.int (0 : Int32)) := D99 (Or.inr (hw _ (List.mem_of_getElem? (i := 54) rfl))) (ty := .int) (by decide)
  refine Go.via (S' := T99.setTop (mkF m 267 #[.val (.long q1), .second, .val (.long q2), .second, .val (.int p3), .val (.int p4), .val (.int p5), .val (.int p6), .val (.int r1), .val (.int r3), .val (.int r5), .val (.int r7), .val (.int r9), .val (.int r11), .val (.int k1), .val (.int k2), .val (.int k3), .val (.int m0), .val (.int m1), .val (.int m2), .val (.int m3), .val (.int m4), .val (.int m5), .val (.int qf), .val (.int ql), .val (.ref b31), .unset, .unset, .unset, .unset, .unset, .unset, .unset] [(.ref b99)])) (fun _ k => st99 _ k) ?_
  refine Go.via (S' := T99.setTop (mkF m 268 #[.val (.long q1), .second, .val (.long q2), .second, .val (.int p3), .val (.int p4), .val (.int p5), .val (.int p6), .val (.int r1), .val (.int r3), .val (.int r5), .val (.int r7), .val (.int r9), .val (.int r11), .val (.int k1), .val (.int k2), .val (.int k3), .val (.int m0), .val (.int m1), .val (.int m2), .val (.int m3), .val (.int m4), .val (.int m5), .val (.int qf), .val (.int ql), .val (.ref b31), .unset, .unset, .unset, .unset, .unset, .unset, .unset] [(.ref b99), (.ref b99)])) (fun _ k => XS.dup X99.here hx rfl (hb hby at_267) rfl rfl k) ?_
  refine Go.via (S' := T99.setTop (mkF m 270 #[.val (.long q1), .second, .val (.long q2), .second, .val (.int p3), .val (.int p4), .val (.int p5), .val (.int p6), .val (.int r1), .val (.int r3), .val (.int r5), .val (.int r7), .val (.int r9), .val (.int r11), .val (.int k1), .val (.int k2), .val (.int k3), .val (.int m0), .val (.int m1), .val (.int m2), .val (.int m3), .val (.int m4), .val (.int m5), .val (.int qf), .val (.int ql), .val (.ref b31), .unset, .unset, .unset, .unset, .unset, .unset, .unset] [(.int m0), (.ref b99), (.ref b99)])) (fun _ k => XS.iload X99.here hx rfl (hb hby at_268) rfl k) ?_
  refine Go.via (S' := T99.setTop (mkF m 272 #[.val (.long q1), .second, .val (.long q2), .second, .val (.int p3), .val (.int p4), .val (.int p5), .val (.int p6), .val (.int r1), .val (.int r3), .val (.int r5), .val (.int r7), .val (.int r9), .val (.int r11), .val (.int k1), .val (.int k2), .val (.int k3), .val (.int m0), .val (.int m1), .val (.int m2), .val (.int m3), .val (.int m4), .val (.int m5), .val (.int qf), .val (.int ql), .val (.ref b31), .unset, .unset, .unset, .unset, .unset, .unset, .unset] [(.int m1), (.int m0), (.ref b99), (.ref b99)])) (fun _ k => XS.iload X99.here hx rfl (hb hby at_270) rfl k) ?_
  obtain ⟨_, _, ⟨T124, L124, k124, n124⟩, -, X124, ⟨Lc124, hQ124, l124, y124, z124⟩, st124⟩ := Jvm.LawKit.callS X99 hx (y := (⟨"com/example/amendatory/amendatory/ProvisionEqualsPinLaw", "two", "(CC)Ljava/lang/String;"⟩ : MethodName)) hown (mvT hZ (hw _ (List.mem_of_getElem? (i := 8) rfl))) (mvT hZ (hw _ (List.mem_of_getElem? (i := 9) rfl))) (mvT hZ (hw _ (List.mem_of_getElem? (i := 2) rfl))) (mvT hZ (hw _ (List.mem_of_getElem? (i := 10) rfl))) (by decide) (backOf (W := 2) (rm2 l Z a0 hw [] m0 m1 G1 h99 n0 z118 f108 O2 P5 hm0 hm1) hZ (hw _ (List.mem_of_getElem? (i := 10) rfl)) (hw _ (List.mem_of_getElem? (i := 2) rfl)) (by decide) (by decide)) (g := (mkF m 272 #[.val (.long q1), .second, .val (.long q2), .second, .val (.int p3), .val (.int p4), .val (.int p5), .val (.int p6), .val (.int r1), .val (.int r3), .val (.int r5), .val (.int r7), .val (.int r9), .val (.int r11), .val (.int k1), .val (.int k2), .val (.int k3), .val (.int m0), .val (.int m1), .val (.int m2), .val (.int m3), .val (.int m4), .val (.int m5), .val (.int qf), .val (.int ql), .val (.ref b31), .unset, .unset, .unset, .unset, .unset, .unset, .unset] [(.int m1), (.int m0), (.ref b99), (.ref b99)])) rfl (by rw [hml]; rfl) (argsL := [(.int m0), (.int m1)]) (rest := [(.ref b99), (.ref b99)]) (lenOf pd_3 rfl) rfl (by show 2 * 0 + _ ≤ _; exact Nat.le_of_eq rfl) (hb hby at_272) (fun _ _ => ⟨rfl, e99, (by decide : 11 + 3 ≤ _), (by decide : 34 + 8 ≤ _)⟩)
  dsimp only [Pt.U, Pt.locs, Pt.cells, Pt.slots] at X124 l124 y124 z124 st124 hQ124
  subst l124 y124 z124
  obtain ⟨r124, t124, rfl, N124q, K124, u1124, u2124, S124⟩ := hQ124
  have N125 := Fr.app N92 N124q
  have f126 := f108.keep K124 all0
  have f127 := f109.keep K124
  have f128 := f110.keep K124 nin0 nin0
  have f129 := f111.keep K124 nin0 nin0
  have f130 := f112.keep K124 nin0 nin0
  have f131 := f113.keep K124 nin0
  have f132 := f114.keep K124 nin0
  have f133 := f115.keep K124 nin0
  have f134 := f116.keep K124 nin0
  have f135 := f117.keep K124 nin0
  have f136 := A99.keep K124
  have f137 := F119.keep K124 nin0
  have f138 := F120.keep K124 nin0
  have f139 := F121.keep K124 nin0
  have f140 := F122.keep K124 nin0
  have f141 := F123.keep K124 nin0
  have z142 := Nat.le_trans z118 K124.1
  refine Go.via (S' := T124.setTop (mkF m 275 #[.val (.long q1), .second, .val (.long q2), .second, .val (.int p3), .val (.int p4), .val (.int p5), .val (.int p6), .val (.int r1), .val (.int r3), .val (.int r5), .val (.int r7), .val (.int r9), .val (.int r11), .val (.int k1), .val (.int k2), .val (.int k3), .val (.int m0), .val (.int m1), .val (.int m2), .val (.int m3), .val (.int m4), .val (.int m5), .val (.int qf), .val (.int ql), .val (.ref b31), .unset, .unset, .unset, .unset, .unset, .unset, .unset] [(.ref r124), (.ref b99), (.ref b99)])) (fun _ k => st124 _ k) ?_
  have ne143 : b31 ≠ r124 := Nat.ne_of_lt (Nat.lt_of_lt_of_le f109.lt u1124)
  have ne144 : b99 ≠ r124 := Nat.ne_of_lt (Nat.lt_of_lt_of_le A99.lt u1124)
  have ne145 : r40 ≠ r124 := Nat.ne_of_lt (Nat.lt_of_lt_of_le f110.lt u1124)
  have ne146 : r52 ≠ r124 := Nat.ne_of_lt (Nat.lt_of_lt_of_le f111.lt u1124)
  have ne147 : r69 ≠ r124 := Nat.ne_of_lt (Nat.lt_of_lt_of_le f112.lt u1124)
  have ne148 : t40 ≠ r124 := Nat.ne_of_lt (Nat.lt_of_lt_of_le f110.lt2 u1124)
  have ne149 : t52 ≠ r124 := Nat.ne_of_lt (Nat.lt_of_lt_of_le f111.lt2 u1124)
  have ne150 : t69 ≠ r124 := Nat.ne_of_lt (Nat.lt_of_lt_of_le f112.lt2 u1124)
  have ne151 : b31 ≠ t124 := Nat.ne_of_lt (Nat.lt_of_lt_of_le f109.lt u2124)
  have ne152 : b99 ≠ t124 := Nat.ne_of_lt (Nat.lt_of_lt_of_le A99.lt u2124)
  have ne153 : r40 ≠ t124 := Nat.ne_of_lt (Nat.lt_of_lt_of_le f110.lt u2124)
  have ne154 : r52 ≠ t124 := Nat.ne_of_lt (Nat.lt_of_lt_of_le f111.lt u2124)
  have ne155 : r69 ≠ t124 := Nat.ne_of_lt (Nat.lt_of_lt_of_le f112.lt u2124)
  have ne156 : t40 ≠ t124 := Nat.ne_of_lt (Nat.lt_of_lt_of_le f110.lt2 u2124)
  have ne157 : t52 ≠ t124 := Nat.ne_of_lt (Nat.lt_of_lt_of_le f111.lt2 u2124)
  have ne158 : t69 ≠ t124 := Nat.ne_of_lt (Nat.lt_of_lt_of_le f112.lt2 u2124)
  refine Go.via (S' := T124.setTop (mkF m 277 #[.val (.long q1), .second, .val (.long q2), .second, .val (.int p3), .val (.int p4), .val (.int p5), .val (.int p6), .val (.int r1), .val (.int r3), .val (.int r5), .val (.int r7), .val (.int r9), .val (.int r11), .val (.int k1), .val (.int k2), .val (.int k3), .val (.int m0), .val (.int m1), .val (.int m2), .val (.int m3), .val (.int m4), .val (.int m5), .val (.int qf), .val (.int ql), .val (.ref b31), .unset, .unset, .unset, .unset, .unset, .unset, .unset] [(.int m2), (.ref r124), (.ref b99), (.ref b99)])) (fun _ k => XS.iload X124.here hx rfl (hb hby at_275) rfl k) ?_
  refine Go.via (S' := T124.setTop (mkF m 279 #[.val (.long q1), .second, .val (.long q2), .second, .val (.int p3), .val (.int p4), .val (.int p5), .val (.int p6), .val (.int r1), .val (.int r3), .val (.int r5), .val (.int r7), .val (.int r9), .val (.int r11), .val (.int k1), .val (.int k2), .val (.int k3), .val (.int m0), .val (.int m1), .val (.int m2), .val (.int m3), .val (.int m4), .val (.int m5), .val (.int qf), .val (.int ql), .val (.ref b31), .unset, .unset, .unset, .unset, .unset, .unset, .unset] [(.int m3), (.int m2), (.ref r124), (.ref b99), (.ref b99)])) (fun _ k => XS.iload X124.here hx rfl (hb hby at_277) rfl k) ?_
  obtain ⟨_, _, ⟨T159, L159, k159, n159⟩, -, X159, ⟨Lc159, hQ159, l159, y159, z159⟩, st159⟩ := Jvm.LawKit.callS X124 hx (y := (⟨"com/example/amendatory/amendatory/ProvisionEqualsPinLaw", "two", "(CC)Ljava/lang/String;"⟩ : MethodName)) hown (mvT hZ (hw _ (List.mem_of_getElem? (i := 8) rfl))) (mvT hZ (hw _ (List.mem_of_getElem? (i := 9) rfl))) (mvT hZ (hw _ (List.mem_of_getElem? (i := 2) rfl))) (mvT hZ (hw _ (List.mem_of_getElem? (i := 10) rfl))) (by decide) (backOf (W := 3) (rm2 l Z a0 hw [] m2 m3 G1 T124.heap n0 z142 f126 O2 P5 hm2 hm3) hZ (hw _ (List.mem_of_getElem? (i := 10) rfl)) (hw _ (List.mem_of_getElem? (i := 2) rfl)) (by decide) (by decide)) (g := (mkF m 279 #[.val (.long q1), .second, .val (.long q2), .second, .val (.int p3), .val (.int p4), .val (.int p5), .val (.int p6), .val (.int r1), .val (.int r3), .val (.int r5), .val (.int r7), .val (.int r9), .val (.int r11), .val (.int k1), .val (.int k2), .val (.int k3), .val (.int m0), .val (.int m1), .val (.int m2), .val (.int m3), .val (.int m4), .val (.int m5), .val (.int qf), .val (.int ql), .val (.ref b31), .unset, .unset, .unset, .unset, .unset, .unset, .unset] [(.int m3), (.int m2), (.ref r124), (.ref b99), (.ref b99)])) rfl (by rw [hml]; rfl) (argsL := [(.int m2), (.int m3)]) (rest := [(.ref r124), (.ref b99), (.ref b99)]) (lenOf pd_3 rfl) rfl (by show 2 * 0 + _ ≤ _; exact Nat.le_of_eq rfl) (hb hby at_279) (fun _ _ => ⟨rfl, rfl, (by decide : 14 + 3 ≤ _), (by decide : 42 + 8 ≤ _)⟩)
  dsimp only [Pt.U, Pt.locs, Pt.cells, Pt.slots] at X159 l159 y159 z159 st159 hQ159
  subst l159 y159 z159
  obtain ⟨r159, t159, rfl, N159q, K159, u1159, u2159, S159⟩ := hQ159
  have N160 := Fr.app N125 N159q
  have f161 := f126.keep K159 all0
  have f162 := f127.keep K159
  have f163 := f128.keep K159 nin0 nin0
  have f164 := f129.keep K159 nin0 nin0
  have f165 := f130.keep K159 nin0 nin0
  have f166 := f131.keep K159 nin0
  have f167 := f132.keep K159 nin0
  have f168 := f133.keep K159 nin0
  have f169 := f134.keep K159 nin0
  have f170 := f135.keep K159 nin0
  have f171 := f136.keep K159
  have f172 := f137.keep K159 nin0
  have f173 := f138.keep K159 nin0
  have f174 := f139.keep K159 nin0
  have f175 := f140.keep K159 nin0
  have f176 := f141.keep K159 nin0
  have f177 := S124.keep K159 nin0 nin0
  have z178 := Nat.le_trans z142 K159.1
  refine Go.via (S' := T159.setTop (mkF m 282 #[.val (.long q1), .second, .val (.long q2), .second, .val (.int p3), .val (.int p4), .val (.int p5), .val (.int p6), .val (.int r1), .val (.int r3), .val (.int r5), .val (.int r7), .val (.int r9), .val (.int r11), .val (.int k1), .val (.int k2), .val (.int k3), .val (.int m0), .val (.int m1), .val (.int m2), .val (.int m3), .val (.int m4), .val (.int m5), .val (.int qf), .val (.int ql), .val (.ref b31), .unset, .unset, .unset, .unset, .unset, .unset, .unset] [(.ref r159), (.ref r124), (.ref b99), (.ref b99)])) (fun _ k => st159 _ k) ?_
  have ne179 : b31 ≠ r159 := Nat.ne_of_lt (Nat.lt_of_lt_of_le f127.lt u1159)
  have ne180 : b99 ≠ r159 := Nat.ne_of_lt (Nat.lt_of_lt_of_le f136.lt u1159)
  have ne181 : r124 ≠ r159 := Nat.ne_of_lt (Nat.lt_of_lt_of_le S124.lt u1159)
  have ne182 : r40 ≠ r159 := Nat.ne_of_lt (Nat.lt_of_lt_of_le f128.lt u1159)
  have ne183 : r52 ≠ r159 := Nat.ne_of_lt (Nat.lt_of_lt_of_le f129.lt u1159)
  have ne184 : r69 ≠ r159 := Nat.ne_of_lt (Nat.lt_of_lt_of_le f130.lt u1159)
  have ne185 : t124 ≠ r159 := Nat.ne_of_lt (Nat.lt_of_lt_of_le S124.lt2 u1159)
  have ne186 : t40 ≠ r159 := Nat.ne_of_lt (Nat.lt_of_lt_of_le f128.lt2 u1159)
  have ne187 : t52 ≠ r159 := Nat.ne_of_lt (Nat.lt_of_lt_of_le f129.lt2 u1159)
  have ne188 : t69 ≠ r159 := Nat.ne_of_lt (Nat.lt_of_lt_of_le f130.lt2 u1159)
  have ne189 : b31 ≠ t159 := Nat.ne_of_lt (Nat.lt_of_lt_of_le f127.lt u2159)
  have ne190 : b99 ≠ t159 := Nat.ne_of_lt (Nat.lt_of_lt_of_le f136.lt u2159)
  have ne191 : r124 ≠ t159 := Nat.ne_of_lt (Nat.lt_of_lt_of_le S124.lt u2159)
  have ne192 : r40 ≠ t159 := Nat.ne_of_lt (Nat.lt_of_lt_of_le f128.lt u2159)
  have ne193 : r52 ≠ t159 := Nat.ne_of_lt (Nat.lt_of_lt_of_le f129.lt u2159)
  have ne194 : r69 ≠ t159 := Nat.ne_of_lt (Nat.lt_of_lt_of_le f130.lt u2159)
  have ne195 : t124 ≠ t159 := Nat.ne_of_lt (Nat.lt_of_lt_of_le S124.lt2 u2159)
  have ne196 : t40 ≠ t159 := Nat.ne_of_lt (Nat.lt_of_lt_of_le f128.lt2 u2159)
  have ne197 : t52 ≠ t159 := Nat.ne_of_lt (Nat.lt_of_lt_of_le f129.lt2 u2159)
  have ne198 : t69 ≠ t159 := Nat.ne_of_lt (Nat.lt_of_lt_of_le f130.lt2 u2159)
  refine Go.via (S' := T159.setTop (mkF m 284 #[.val (.long q1), .second, .val (.long q2), .second, .val (.int p3), .val (.int p4), .val (.int p5), .val (.int p6), .val (.int r1), .val (.int r3), .val (.int r5), .val (.int r7), .val (.int r9), .val (.int r11), .val (.int k1), .val (.int k2), .val (.int k3), .val (.int m0), .val (.int m1), .val (.int m2), .val (.int m3), .val (.int m4), .val (.int m5), .val (.int qf), .val (.int ql), .val (.ref b31), .unset, .unset, .unset, .unset, .unset, .unset, .unset] [(.int m4), (.ref r159), (.ref r124), (.ref b99), (.ref b99)])) (fun _ k => XS.iload X159.here hx rfl (hb hby at_282) rfl k) ?_
  refine Go.via (S' := T159.setTop (mkF m 286 #[.val (.long q1), .second, .val (.long q2), .second, .val (.int p3), .val (.int p4), .val (.int p5), .val (.int p6), .val (.int r1), .val (.int r3), .val (.int r5), .val (.int r7), .val (.int r9), .val (.int r11), .val (.int k1), .val (.int k2), .val (.int k3), .val (.int m0), .val (.int m1), .val (.int m2), .val (.int m3), .val (.int m4), .val (.int m5), .val (.int qf), .val (.int ql), .val (.ref b31), .unset, .unset, .unset, .unset, .unset, .unset, .unset] [(.int m5), (.int m4), (.ref r159), (.ref r124), (.ref b99), (.ref b99)])) (fun _ k => XS.iload X159.here hx rfl (hb hby at_284) rfl k) ?_
  obtain ⟨_, _, ⟨T199, L199, k199, n199⟩, -, X199, ⟨Lc199, hQ199, l199, y199, z199⟩, st199⟩ := Jvm.LawKit.callS X159 hx (y := (⟨"com/example/amendatory/amendatory/ProvisionEqualsPinLaw", "two", "(CC)Ljava/lang/String;"⟩ : MethodName)) hown (mvT hZ (hw _ (List.mem_of_getElem? (i := 8) rfl))) (mvT hZ (hw _ (List.mem_of_getElem? (i := 9) rfl))) (mvT hZ (hw _ (List.mem_of_getElem? (i := 2) rfl))) (mvT hZ (hw _ (List.mem_of_getElem? (i := 10) rfl))) (by decide) (backOf (W := 4) (rm2 l Z a0 hw [] m4 m5 G1 T159.heap n0 z178 f161 O2 P5 hm4 hm5) hZ (hw _ (List.mem_of_getElem? (i := 10) rfl)) (hw _ (List.mem_of_getElem? (i := 2) rfl)) (by decide) (by decide)) (g := (mkF m 286 #[.val (.long q1), .second, .val (.long q2), .second, .val (.int p3), .val (.int p4), .val (.int p5), .val (.int p6), .val (.int r1), .val (.int r3), .val (.int r5), .val (.int r7), .val (.int r9), .val (.int r11), .val (.int k1), .val (.int k2), .val (.int k3), .val (.int m0), .val (.int m1), .val (.int m2), .val (.int m3), .val (.int m4), .val (.int m5), .val (.int qf), .val (.int ql), .val (.ref b31), .unset, .unset, .unset, .unset, .unset, .unset, .unset] [(.int m5), (.int m4), (.ref r159), (.ref r124), (.ref b99), (.ref b99)])) rfl (by rw [hml]; rfl) (argsL := [(.int m4), (.int m5)]) (rest := [(.ref r159), (.ref r124), (.ref b99), (.ref b99)]) (lenOf pd_3 rfl) rfl (by show 2 * 0 + _ ≤ _; exact Nat.le_of_eq rfl) (hb hby at_286) (fun _ _ => ⟨rfl, rfl, (by decide : 17 + 3 ≤ _), (by decide : 50 + 8 ≤ _)⟩)
  dsimp only [Pt.U, Pt.locs, Pt.cells, Pt.slots] at X199 l199 y199 z199 st199 hQ199
  subst l199 y199 z199
  obtain ⟨r199, t199, rfl, N199q, K199, u1199, u2199, S199⟩ := hQ199
  have N200 := Fr.app N160 N199q
  have f201 := f161.keep K199 all0
  have f202 := f162.keep K199
  have f203 := f163.keep K199 nin0 nin0
  have f204 := f164.keep K199 nin0 nin0
  have f205 := f165.keep K199 nin0 nin0
  have f206 := f166.keep K199 nin0
  have f207 := f167.keep K199 nin0
  have f208 := f168.keep K199 nin0
  have f209 := f169.keep K199 nin0
  have f210 := f170.keep K199 nin0
  have f211 := f171.keep K199
  have f212 := f172.keep K199 nin0
  have f213 := f173.keep K199 nin0
  have f214 := f174.keep K199 nin0
  have f215 := f175.keep K199 nin0
  have f216 := f176.keep K199 nin0
  have f217 := f177.keep K199 nin0 nin0
  have f218 := S159.keep K199 nin0 nin0
  have z219 := Nat.le_trans z178 K199.1
  refine Go.via (S' := T199.setTop (mkF m 289 #[.val (.long q1), .second, .val (.long q2), .second, .val (.int p3), .val (.int p4), .val (.int p5), .val (.int p6), .val (.int r1), .val (.int r3), .val (.int r5), .val (.int r7), .val (.int r9), .val (.int r11), .val (.int k1), .val (.int k2), .val (.int k3), .val (.int m0), .val (.int m1), .val (.int m2), .val (.int m3), .val (.int m4), .val (.int m5), .val (.int qf), .val (.int ql), .val (.ref b31), .unset, .unset, .unset, .unset, .unset, .unset, .unset] [(.ref r199), (.ref r159), (.ref r124), (.ref b99), (.ref b99)])) (fun _ k => st199 _ k) ?_
  have ne220 : b31 ≠ r199 := Nat.ne_of_lt (Nat.lt_of_lt_of_le f162.lt u1199)
  have ne221 : b99 ≠ r199 := Nat.ne_of_lt (Nat.lt_of_lt_of_le f171.lt u1199)
  have ne222 : r124 ≠ r199 := Nat.ne_of_lt (Nat.lt_of_lt_of_le f177.lt u1199)
  have ne223 : r159 ≠ r199 := Nat.ne_of_lt (Nat.lt_of_lt_of_le S159.lt u1199)
  have ne224 : r40 ≠ r199 := Nat.ne_of_lt (Nat.lt_of_lt_of_le f163.lt u1199)
  have ne225 : r52 ≠ r199 := Nat.ne_of_lt (Nat.lt_of_lt_of_le f164.lt u1199)
  have ne226 : r69 ≠ r199 := Nat.ne_of_lt (Nat.lt_of_lt_of_le f165.lt u1199)
  have ne227 : t124 ≠ r199 := Nat.ne_of_lt (Nat.lt_of_lt_of_le f177.lt2 u1199)
  have ne228 : t159 ≠ r199 := Nat.ne_of_lt (Nat.lt_of_lt_of_le S159.lt2 u1199)
  have ne229 : t40 ≠ r199 := Nat.ne_of_lt (Nat.lt_of_lt_of_le f163.lt2 u1199)
  have ne230 : t52 ≠ r199 := Nat.ne_of_lt (Nat.lt_of_lt_of_le f164.lt2 u1199)
  have ne231 : t69 ≠ r199 := Nat.ne_of_lt (Nat.lt_of_lt_of_le f165.lt2 u1199)
  have ne232 : b31 ≠ t199 := Nat.ne_of_lt (Nat.lt_of_lt_of_le f162.lt u2199)
  have ne233 : b99 ≠ t199 := Nat.ne_of_lt (Nat.lt_of_lt_of_le f171.lt u2199)
  have ne234 : r124 ≠ t199 := Nat.ne_of_lt (Nat.lt_of_lt_of_le f177.lt u2199)
  have ne235 : r159 ≠ t199 := Nat.ne_of_lt (Nat.lt_of_lt_of_le S159.lt u2199)
  have ne236 : r40 ≠ t199 := Nat.ne_of_lt (Nat.lt_of_lt_of_le f163.lt u2199)
  have ne237 : r52 ≠ t199 := Nat.ne_of_lt (Nat.lt_of_lt_of_le f164.lt u2199)
  have ne238 : r69 ≠ t199 := Nat.ne_of_lt (Nat.lt_of_lt_of_le f165.lt u2199)
  have ne239 : t124 ≠ t199 := Nat.ne_of_lt (Nat.lt_of_lt_of_le f177.lt2 u2199)
  have ne240 : t159 ≠ t199 := Nat.ne_of_lt (Nat.lt_of_lt_of_le S159.lt2 u2199)
  have ne241 : t40 ≠ t199 := Nat.ne_of_lt (Nat.lt_of_lt_of_le f163.lt2 u2199)
  have ne242 : t52 ≠ t199 := Nat.ne_of_lt (Nat.lt_of_lt_of_le f164.lt2 u2199)
  have ne243 : t69 ≠ t199 := Nat.ne_of_lt (Nat.lt_of_lt_of_le f165.lt2 u2199)
  refine Go.via (S' := T199.setTop (mkF m 291 #[.val (.long q1), .second, .val (.long q2), .second, .val (.int p3), .val (.int p4), .val (.int p5), .val (.int p6), .val (.int r1), .val (.int r3), .val (.int r5), .val (.int r7), .val (.int r9), .val (.int r11), .val (.int k1), .val (.int k2), .val (.int k3), .val (.int m0), .val (.int m1), .val (.int m2), .val (.int m3), .val (.int m4), .val (.int m5), .val (.int qf), .val (.int ql), .val (.ref b31), .unset, .unset, .unset, .unset, .unset, .unset, .unset] [(.int qf), (.ref r199), (.ref r159), (.ref r124), (.ref b99), (.ref b99)])) (fun _ k => XS.iload X199.here hx rfl (hb hby at_289) rfl k) ?_
  refine Go.via (S' := T199.setTop (mkF m 293 #[.val (.long q1), .second, .val (.long q2), .second, .val (.int p3), .val (.int p4), .val (.int p5), .val (.int p6), .val (.int r1), .val (.int r3), .val (.int r5), .val (.int r7), .val (.int r9), .val (.int r11), .val (.int k1), .val (.int k2), .val (.int k3), .val (.int m0), .val (.int m1), .val (.int m2), .val (.int m3), .val (.int m4), .val (.int m5), .val (.int qf), .val (.int ql), .val (.ref b31), .unset, .unset, .unset, .unset, .unset, .unset, .unset] [(.int ql), (.int qf), (.ref r199), (.ref r159), (.ref r124), (.ref b99), (.ref b99)])) (fun _ k => XS.iload X199.here hx rfl (hb hby at_291) rfl k) ?_
  obtain ⟨_, _, ⟨T244, L244, k244, n244⟩, -, X244, ⟨Lc244, hQ244, l244, y244, z244⟩, st244⟩ := X199.specialBack hx (y := (⟨"com/example/amendatory/amendatory/Provision", "<init>", "(Ljava/lang/String;Ljava/lang/String;Ljava/lang/String;II)V"⟩ : MethodName)) rfl hown (mvT hZ (hw _ (List.mem_of_getElem? (i := 41) rfl))) (mvT hZ (hw _ (List.mem_of_getElem? (i := 42) rfl))) (mvT hZ (hw _ (List.mem_of_getElem? (i := 43) rfl))) (by decide) (backOf (W := 1) (rm9 l Z a0 hw [] b99 r124 r159 r199 qf ql T199.heap n0 z219 f211 f212 f213 f214 f215 f216 g107) hZ (hw _ (List.mem_of_getElem? (i := 43) rfl)) (hw _ (List.mem_of_getElem? (i := 7) rfl)) (by decide) (by decide)) (g := (mkF m 293 #[.val (.long q1), .second, .val (.long q2), .second, .val (.int p3), .val (.int p4), .val (.int p5), .val (.int p6), .val (.int r1), .val (.int r3), .val (.int r5), .val (.int r7), .val (.int r9), .val (.int r11), .val (.int k1), .val (.int k2), .val (.int k3), .val (.int m0), .val (.int m1), .val (.int m2), .val (.int m3), .val (.int m4), .val (.int m5), .val (.int qf), .val (.int ql), .val (.ref b31), .unset, .unset, .unset, .unset, .unset, .unset, .unset] [(.int ql), (.int qf), (.ref r199), (.ref r159), (.ref r124), (.ref b99), (.ref b99)])) rfl (by rw [hml]; rfl) (Steps.refl _) (a := b99) (argsL := [(.ref r124), (.ref r159), (.ref r199), (.int qf), (.int ql)]) (rest := [(.ref b99)]) (lenOf pd_4 rfl) rfl (by show 2 * 0 + _ ≤ _; exact Nat.le_of_eq rfl) (hb hby at_293) (fun _ _ => ⟨rfl, rfl, (by decide : 20 + 0 ≤ _), (by decide : 58 + 0 ≤ _)⟩)
  dsimp only [Pt.U, Pt.locs, Pt.cells, Pt.slots] at X244 l244 y244 z244 st244 hQ244
  subst l244 y244 z244
  obtain ⟨rfl, N244q, K244, F_number244, F_designation244, F_opening244, F_firstLine244, F_lastLine244⟩ := hQ244
  have N245 := Fr.app N200 N244q
  have f246 := f201.keep K244 (allS g107 all0)
  have f247 := f202.keep K244
  have f248 := f203.keep K244 (ninS ne101 nin0) (ninS ne104 nin0)
  have f249 := f204.keep K244 (ninS ne102 nin0) (ninS ne105 nin0)
  have f250 := f205.keep K244 (ninS ne103 nin0) (ninS ne106 nin0)
  have f251 := f206.keep K244 (ninS ne100 nin0)
  have f252 := f207.keep K244 (ninS ne100 nin0)
  have f253 := f208.keep K244 (ninS ne100 nin0)
  have f254 := f209.keep K244 (ninS ne100 nin0)
  have f255 := f210.keep K244 (ninS ne100 nin0)
  have f256 := f211.keep K244
  have f257 := f217.keep K244 (ninS (Ne.symm ne144) nin0) (ninS (Ne.symm ne152) nin0)
  have f258 := f218.keep K244 (ninS (Ne.symm ne180) nin0) (ninS (Ne.symm ne190) nin0)
  have f259 := S199.keep K244 (ninS (Ne.symm ne221) nin0) (ninS (Ne.symm ne233) nin0)
  have z260 := Nat.le_trans z219 K244.1
  refine Go.via (S' := T244.setTop (mkF m 296 #[.val (.long q1), .second, .val (.long q2), .second, .val (.int p3), .val (.int p4), .val (.int p5), .val (.int p6), .val (.int r1), .val (.int r3), .val (.int r5), .val (.int r7), .val (.int r9), .val (.int r11), .val (.int k1), .val (.int k2), .val (.int k3), .val (.int m0), .val (.int m1), .val (.int m2), .val (.int m3), .val (.int m4), .val (.int m5), .val (.int qf), .val (.int ql), .val (.ref b31), .unset, .unset, .unset, .unset, .unset, .unset, .unset] [(.ref b99)])) (fun _ k => st244.trans k) ?_
  refine Go.via (S' := T244.setTop (mkF m 298 #[.val (.long q1), .second, .val (.long q2), .second, .val (.int p3), .val (.int p4), .val (.int p5), .val (.int p6), .val (.int r1), .val (.int r3), .val (.int r5), .val (.int r7), .val (.int r9), .val (.int r11), .val (.int k1), .val (.int k2), .val (.int k3), .val (.int m0), .val (.int m1), .val (.int m2), .val (.int m3), .val (.int m4), .val (.int m5), .val (.int qf), .val (.int ql), .val (.ref b31), .val (.ref b99), .unset, .unset, .unset, .unset, .unset, .unset] [])) (fun _ k => XS.astore X244.here hx rfl (hb hby at_296) rfl rfl (l' := #[.val (.long q1), .second, .val (.long q2), .second, .val (.int p3), .val (.int p4), .val (.int p5), .val (.int p6), .val (.int r1), .val (.int r3), .val (.int r5), .val (.int r7), .val (.int r9), .val (.int r11), .val (.int k1), .val (.int k2), .val (.int k3), .val (.int m0), .val (.int m1), .val (.int m2), .val (.int m3), .val (.int m4), .val (.int m5), .val (.int qf), .val (.int ql), .val (.ref b31), .val (.ref b99), .unset, .unset, .unset, .unset, .unset, .unset]) rfl k) ?_
  suffices J359 : ∀ (ex : Int32) (hex : (ex = 1 ∧ (m0 = r1 ∧ m1 = r3 ∧ m2 = r5 ∧ m3 = r7 ∧ m4 = r9 ∧ m5 = r11 ∧ qf = p4 ∧ ql = p5)) ∨ (ex = 0 ∧ ¬ (m0 = r1 ∧ m1 = r3 ∧ m2 = r5 ∧ m3 = r7 ∧ m4 = r9 ∧ m5 = r11 ∧ qf = p4 ∧ ql = p5))), Go p e below s (Q0 Z q1 q2 p3 p4 p5 p6 G1 h0 n0) room_1.cells room_1.slots (T244.setTop (mkF m 359 #[.val (.long q1), .second, .val (.long q2), .second, .val (.int p3), .val (.int p4), .val (.int p5), .val (.int p6), .val (.int r1), .val (.int r3), .val (.int r5), .val (.int r7), .val (.int r9), .val (.int r11), .val (.int k1), .val (.int k2), .val (.int k3), .val (.int m0), .val (.int m1), .val (.int m2), .val (.int m3), .val (.int m4), .val (.int m5), .val (.int qf), .val (.int ql), .val (.ref b31), .val (.ref b99), .unset, .unset, .unset, .unset, .unset, .unset] [(.int ex)])) by
    refine Go.via (S' := T244.setTop (mkF m 300 #[.val (.long q1), .second, .val (.long q2), .second, .val (.int p3), .val (.int p4), .val (.int p5), .val (.int p6), .val (.int r1), .val (.int r3), .val (.int r5), .val (.int r7), .val (.int r9), .val (.int r11), .val (.int k1), .val (.int k2), .val (.int k3), .val (.int m0), .val (.int m1), .val (.int m2), .val (.int m3), .val (.int m4), .val (.int m5), .val (.int qf), .val (.int ql), .val (.ref b31), .val (.ref b99), .unset, .unset, .unset, .unset, .unset, .unset] [(.int m0)])) (fun _ k => XS.iload X244.here hx rfl (hb hby at_298) rfl k) ?_
    refine Go.via (S' := T244.setTop (mkF m 302 #[.val (.long q1), .second, .val (.long q2), .second, .val (.int p3), .val (.int p4), .val (.int p5), .val (.int p6), .val (.int r1), .val (.int r3), .val (.int r5), .val (.int r7), .val (.int r9), .val (.int r11), .val (.int k1), .val (.int k2), .val (.int k3), .val (.int m0), .val (.int m1), .val (.int m2), .val (.int m3), .val (.int m4), .val (.int m5), .val (.int qf), .val (.int ql), .val (.ref b31), .val (.ref b99), .unset, .unset, .unset, .unset, .unset, .unset] [(.int r1), (.int m0)])) (fun _ k => XS.iload X244.here hx rfl (hb hby at_300) rfl k) ?_
    rcases Decidable.em (m0 = r1) with hc302 | hc302
    · refine Go.via (S' := T244.setTop (mkF m 305 #[.val (.long q1), .second, .val (.long q2), .second, .val (.int p3), .val (.int p4), .val (.int p5), .val (.int p6), .val (.int r1), .val (.int r3), .val (.int r5), .val (.int r7), .val (.int r9), .val (.int r11), .val (.int k1), .val (.int k2), .val (.int k3), .val (.int m0), .val (.int m1), .val (.int m2), .val (.int m3), .val (.int m4), .val (.int m5), .val (.int qf), .val (.int ql), .val (.ref b31), .val (.ref b99), .unset, .unset, .unset, .unset, .unset, .unset] [])) (fun _ k => XS.icmpNo X244.here hx rfl (hb hby at_302) rfl (teq hc302).2 k) ?_
      refine Go.via (S' := T244.setTop (mkF m 307 #[.val (.long q1), .second, .val (.long q2), .second, .val (.int p3), .val (.int p4), .val (.int p5), .val (.int p6), .val (.int r1), .val (.int r3), .val (.int r5), .val (.int r7), .val (.int r9), .val (.int r11), .val (.int k1), .val (.int k2), .val (.int k3), .val (.int m0), .val (.int m1), .val (.int m2), .val (.int m3), .val (.int m4), .val (.int m5), .val (.int qf), .val (.int ql), .val (.ref b31), .val (.ref b99), .unset, .unset, .unset, .unset, .unset, .unset] [(.int m1)])) (fun _ k => XS.iload X244.here hx rfl (hb hby at_305) rfl k) ?_
      refine Go.via (S' := T244.setTop (mkF m 309 #[.val (.long q1), .second, .val (.long q2), .second, .val (.int p3), .val (.int p4), .val (.int p5), .val (.int p6), .val (.int r1), .val (.int r3), .val (.int r5), .val (.int r7), .val (.int r9), .val (.int r11), .val (.int k1), .val (.int k2), .val (.int k3), .val (.int m0), .val (.int m1), .val (.int m2), .val (.int m3), .val (.int m4), .val (.int m5), .val (.int qf), .val (.int ql), .val (.ref b31), .val (.ref b99), .unset, .unset, .unset, .unset, .unset, .unset] [(.int r3), (.int m1)])) (fun _ k => XS.iload X244.here hx rfl (hb hby at_307) rfl k) ?_
      rcases Decidable.em (m1 = r3) with hc309 | hc309
      · refine Go.via (S' := T244.setTop (mkF m 312 #[.val (.long q1), .second, .val (.long q2), .second, .val (.int p3), .val (.int p4), .val (.int p5), .val (.int p6), .val (.int r1), .val (.int r3), .val (.int r5), .val (.int r7), .val (.int r9), .val (.int r11), .val (.int k1), .val (.int k2), .val (.int k3), .val (.int m0), .val (.int m1), .val (.int m2), .val (.int m3), .val (.int m4), .val (.int m5), .val (.int qf), .val (.int ql), .val (.ref b31), .val (.ref b99), .unset, .unset, .unset, .unset, .unset, .unset] [])) (fun _ k => XS.icmpNo X244.here hx rfl (hb hby at_309) rfl (teq hc309).2 k) ?_
        refine Go.via (S' := T244.setTop (mkF m 314 #[.val (.long q1), .second, .val (.long q2), .second, .val (.int p3), .val (.int p4), .val (.int p5), .val (.int p6), .val (.int r1), .val (.int r3), .val (.int r5), .val (.int r7), .val (.int r9), .val (.int r11), .val (.int k1), .val (.int k2), .val (.int k3), .val (.int m0), .val (.int m1), .val (.int m2), .val (.int m3), .val (.int m4), .val (.int m5), .val (.int qf), .val (.int ql), .val (.ref b31), .val (.ref b99), .unset, .unset, .unset, .unset, .unset, .unset] [(.int m2)])) (fun _ k => XS.iload X244.here hx rfl (hb hby at_312) rfl k) ?_
        refine Go.via (S' := T244.setTop (mkF m 316 #[.val (.long q1), .second, .val (.long q2), .second, .val (.int p3), .val (.int p4), .val (.int p5), .val (.int p6), .val (.int r1), .val (.int r3), .val (.int r5), .val (.int r7), .val (.int r9), .val (.int r11), .val (.int k1), .val (.int k2), .val (.int k3), .val (.int m0), .val (.int m1), .val (.int m2), .val (.int m3), .val (.int m4), .val (.int m5), .val (.int qf), .val (.int ql), .val (.ref b31), .val (.ref b99), .unset, .unset, .unset, .unset, .unset, .unset] [(.int r5), (.int m2)])) (fun _ k => XS.iload X244.here hx rfl (hb hby at_314) rfl k) ?_
        rcases Decidable.em (m2 = r5) with hc316 | hc316
        · refine Go.via (S' := T244.setTop (mkF m 319 #[.val (.long q1), .second, .val (.long q2), .second, .val (.int p3), .val (.int p4), .val (.int p5), .val (.int p6), .val (.int r1), .val (.int r3), .val (.int r5), .val (.int r7), .val (.int r9), .val (.int r11), .val (.int k1), .val (.int k2), .val (.int k3), .val (.int m0), .val (.int m1), .val (.int m2), .val (.int m3), .val (.int m4), .val (.int m5), .val (.int qf), .val (.int ql), .val (.ref b31), .val (.ref b99), .unset, .unset, .unset, .unset, .unset, .unset] [])) (fun _ k => XS.icmpNo X244.here hx rfl (hb hby at_316) rfl (teq hc316).2 k) ?_
          refine Go.via (S' := T244.setTop (mkF m 321 #[.val (.long q1), .second, .val (.long q2), .second, .val (.int p3), .val (.int p4), .val (.int p5), .val (.int p6), .val (.int r1), .val (.int r3), .val (.int r5), .val (.int r7), .val (.int r9), .val (.int r11), .val (.int k1), .val (.int k2), .val (.int k3), .val (.int m0), .val (.int m1), .val (.int m2), .val (.int m3), .val (.int m4), .val (.int m5), .val (.int qf), .val (.int ql), .val (.ref b31), .val (.ref b99), .unset, .unset, .unset, .unset, .unset, .unset] [(.int m3)])) (fun _ k => XS.iload X244.here hx rfl (hb hby at_319) rfl k) ?_
          refine Go.via (S' := T244.setTop (mkF m 323 #[.val (.long q1), .second, .val (.long q2), .second, .val (.int p3), .val (.int p4), .val (.int p5), .val (.int p6), .val (.int r1), .val (.int r3), .val (.int r5), .val (.int r7), .val (.int r9), .val (.int r11), .val (.int k1), .val (.int k2), .val (.int k3), .val (.int m0), .val (.int m1), .val (.int m2), .val (.int m3), .val (.int m4), .val (.int m5), .val (.int qf), .val (.int ql), .val (.ref b31), .val (.ref b99), .unset, .unset, .unset, .unset, .unset, .unset] [(.int r7), (.int m3)])) (fun _ k => XS.iload X244.here hx rfl (hb hby at_321) rfl k) ?_
          rcases Decidable.em (m3 = r7) with hc323 | hc323
          · refine Go.via (S' := T244.setTop (mkF m 326 #[.val (.long q1), .second, .val (.long q2), .second, .val (.int p3), .val (.int p4), .val (.int p5), .val (.int p6), .val (.int r1), .val (.int r3), .val (.int r5), .val (.int r7), .val (.int r9), .val (.int r11), .val (.int k1), .val (.int k2), .val (.int k3), .val (.int m0), .val (.int m1), .val (.int m2), .val (.int m3), .val (.int m4), .val (.int m5), .val (.int qf), .val (.int ql), .val (.ref b31), .val (.ref b99), .unset, .unset, .unset, .unset, .unset, .unset] [])) (fun _ k => XS.icmpNo X244.here hx rfl (hb hby at_323) rfl (teq hc323).2 k) ?_
            refine Go.via (S' := T244.setTop (mkF m 328 #[.val (.long q1), .second, .val (.long q2), .second, .val (.int p3), .val (.int p4), .val (.int p5), .val (.int p6), .val (.int r1), .val (.int r3), .val (.int r5), .val (.int r7), .val (.int r9), .val (.int r11), .val (.int k1), .val (.int k2), .val (.int k3), .val (.int m0), .val (.int m1), .val (.int m2), .val (.int m3), .val (.int m4), .val (.int m5), .val (.int qf), .val (.int ql), .val (.ref b31), .val (.ref b99), .unset, .unset, .unset, .unset, .unset, .unset] [(.int m4)])) (fun _ k => XS.iload X244.here hx rfl (hb hby at_326) rfl k) ?_
            refine Go.via (S' := T244.setTop (mkF m 330 #[.val (.long q1), .second, .val (.long q2), .second, .val (.int p3), .val (.int p4), .val (.int p5), .val (.int p6), .val (.int r1), .val (.int r3), .val (.int r5), .val (.int r7), .val (.int r9), .val (.int r11), .val (.int k1), .val (.int k2), .val (.int k3), .val (.int m0), .val (.int m1), .val (.int m2), .val (.int m3), .val (.int m4), .val (.int m5), .val (.int qf), .val (.int ql), .val (.ref b31), .val (.ref b99), .unset, .unset, .unset, .unset, .unset, .unset] [(.int r9), (.int m4)])) (fun _ k => XS.iload X244.here hx rfl (hb hby at_328) rfl k) ?_
            rcases Decidable.em (m4 = r9) with hc330 | hc330
            · refine Go.via (S' := T244.setTop (mkF m 333 #[.val (.long q1), .second, .val (.long q2), .second, .val (.int p3), .val (.int p4), .val (.int p5), .val (.int p6), .val (.int r1), .val (.int r3), .val (.int r5), .val (.int r7), .val (.int r9), .val (.int r11), .val (.int k1), .val (.int k2), .val (.int k3), .val (.int m0), .val (.int m1), .val (.int m2), .val (.int m3), .val (.int m4), .val (.int m5), .val (.int qf), .val (.int ql), .val (.ref b31), .val (.ref b99), .unset, .unset, .unset, .unset, .unset, .unset] [])) (fun _ k => XS.icmpNo X244.here hx rfl (hb hby at_330) rfl (teq hc330).2 k) ?_
              refine Go.via (S' := T244.setTop (mkF m 335 #[.val (.long q1), .second, .val (.long q2), .second, .val (.int p3), .val (.int p4), .val (.int p5), .val (.int p6), .val (.int r1), .val (.int r3), .val (.int r5), .val (.int r7), .val (.int r9), .val (.int r11), .val (.int k1), .val (.int k2), .val (.int k3), .val (.int m0), .val (.int m1), .val (.int m2), .val (.int m3), .val (.int m4), .val (.int m5), .val (.int qf), .val (.int ql), .val (.ref b31), .val (.ref b99), .unset, .unset, .unset, .unset, .unset, .unset] [(.int m5)])) (fun _ k => XS.iload X244.here hx rfl (hb hby at_333) rfl k) ?_
              refine Go.via (S' := T244.setTop (mkF m 337 #[.val (.long q1), .second, .val (.long q2), .second, .val (.int p3), .val (.int p4), .val (.int p5), .val (.int p6), .val (.int r1), .val (.int r3), .val (.int r5), .val (.int r7), .val (.int r9), .val (.int r11), .val (.int k1), .val (.int k2), .val (.int k3), .val (.int m0), .val (.int m1), .val (.int m2), .val (.int m3), .val (.int m4), .val (.int m5), .val (.int qf), .val (.int ql), .val (.ref b31), .val (.ref b99), .unset, .unset, .unset, .unset, .unset, .unset] [(.int r11), (.int m5)])) (fun _ k => XS.iload X244.here hx rfl (hb hby at_335) rfl k) ?_
              rcases Decidable.em (m5 = r11) with hc337 | hc337
              · refine Go.via (S' := T244.setTop (mkF m 340 #[.val (.long q1), .second, .val (.long q2), .second, .val (.int p3), .val (.int p4), .val (.int p5), .val (.int p6), .val (.int r1), .val (.int r3), .val (.int r5), .val (.int r7), .val (.int r9), .val (.int r11), .val (.int k1), .val (.int k2), .val (.int k3), .val (.int m0), .val (.int m1), .val (.int m2), .val (.int m3), .val (.int m4), .val (.int m5), .val (.int qf), .val (.int ql), .val (.ref b31), .val (.ref b99), .unset, .unset, .unset, .unset, .unset, .unset] [])) (fun _ k => XS.icmpNo X244.here hx rfl (hb hby at_337) rfl (teq hc337).2 k) ?_
                refine Go.via (S' := T244.setTop (mkF m 342 #[.val (.long q1), .second, .val (.long q2), .second, .val (.int p3), .val (.int p4), .val (.int p5), .val (.int p6), .val (.int r1), .val (.int r3), .val (.int r5), .val (.int r7), .val (.int r9), .val (.int r11), .val (.int k1), .val (.int k2), .val (.int k3), .val (.int m0), .val (.int m1), .val (.int m2), .val (.int m3), .val (.int m4), .val (.int m5), .val (.int qf), .val (.int ql), .val (.ref b31), .val (.ref b99), .unset, .unset, .unset, .unset, .unset, .unset] [(.int qf)])) (fun _ k => XS.iload X244.here hx rfl (hb hby at_340) rfl k) ?_
                refine Go.via (S' := T244.setTop (mkF m 344 #[.val (.long q1), .second, .val (.long q2), .second, .val (.int p3), .val (.int p4), .val (.int p5), .val (.int p6), .val (.int r1), .val (.int r3), .val (.int r5), .val (.int r7), .val (.int r9), .val (.int r11), .val (.int k1), .val (.int k2), .val (.int k3), .val (.int m0), .val (.int m1), .val (.int m2), .val (.int m3), .val (.int m4), .val (.int m5), .val (.int qf), .val (.int ql), .val (.ref b31), .val (.ref b99), .unset, .unset, .unset, .unset, .unset, .unset] [(.int p4), (.int qf)])) (fun _ k => XS.iload X244.here hx rfl (hb hby at_342) rfl k) ?_
                rcases Decidable.em (qf = p4) with hc344 | hc344
                · refine Go.via (S' := T244.setTop (mkF m 347 #[.val (.long q1), .second, .val (.long q2), .second, .val (.int p3), .val (.int p4), .val (.int p5), .val (.int p6), .val (.int r1), .val (.int r3), .val (.int r5), .val (.int r7), .val (.int r9), .val (.int r11), .val (.int k1), .val (.int k2), .val (.int k3), .val (.int m0), .val (.int m1), .val (.int m2), .val (.int m3), .val (.int m4), .val (.int m5), .val (.int qf), .val (.int ql), .val (.ref b31), .val (.ref b99), .unset, .unset, .unset, .unset, .unset, .unset] [])) (fun _ k => XS.icmpNo X244.here hx rfl (hb hby at_344) rfl (teq hc344).2 k) ?_
                  refine Go.via (S' := T244.setTop (mkF m 349 #[.val (.long q1), .second, .val (.long q2), .second, .val (.int p3), .val (.int p4), .val (.int p5), .val (.int p6), .val (.int r1), .val (.int r3), .val (.int r5), .val (.int r7), .val (.int r9), .val (.int r11), .val (.int k1), .val (.int k2), .val (.int k3), .val (.int m0), .val (.int m1), .val (.int m2), .val (.int m3), .val (.int m4), .val (.int m5), .val (.int qf), .val (.int ql), .val (.ref b31), .val (.ref b99), .unset, .unset, .unset, .unset, .unset, .unset] [(.int ql)])) (fun _ k => XS.iload X244.here hx rfl (hb hby at_347) rfl k) ?_
                  refine Go.via (S' := T244.setTop (mkF m 351 #[.val (.long q1), .second, .val (.long q2), .second, .val (.int p3), .val (.int p4), .val (.int p5), .val (.int p6), .val (.int r1), .val (.int r3), .val (.int r5), .val (.int r7), .val (.int r9), .val (.int r11), .val (.int k1), .val (.int k2), .val (.int k3), .val (.int m0), .val (.int m1), .val (.int m2), .val (.int m3), .val (.int m4), .val (.int m5), .val (.int qf), .val (.int ql), .val (.ref b31), .val (.ref b99), .unset, .unset, .unset, .unset, .unset, .unset] [(.int p5), (.int ql)])) (fun _ k => XS.iload X244.here hx rfl (hb hby at_349) rfl k) ?_
                  rcases Decidable.em (ql = p5) with hc351 | hc351
                  · refine Go.via (S' := T244.setTop (mkF m 354 #[.val (.long q1), .second, .val (.long q2), .second, .val (.int p3), .val (.int p4), .val (.int p5), .val (.int p6), .val (.int r1), .val (.int r3), .val (.int r5), .val (.int r7), .val (.int r9), .val (.int r11), .val (.int k1), .val (.int k2), .val (.int k3), .val (.int m0), .val (.int m1), .val (.int m2), .val (.int m3), .val (.int m4), .val (.int m5), .val (.int qf), .val (.int ql), .val (.ref b31), .val (.ref b99), .unset, .unset, .unset, .unset, .unset, .unset] [])) (fun _ k => XS.icmpNo X244.here hx rfl (hb hby at_351) rfl (teq hc351).2 k) ?_
                    refine Go.via (S' := T244.setTop (mkF m 355 #[.val (.long q1), .second, .val (.long q2), .second, .val (.int p3), .val (.int p4), .val (.int p5), .val (.int p6), .val (.int r1), .val (.int r3), .val (.int r5), .val (.int r7), .val (.int r9), .val (.int r11), .val (.int k1), .val (.int k2), .val (.int k3), .val (.int m0), .val (.int m1), .val (.int m2), .val (.int m3), .val (.int m4), .val (.int m5), .val (.int qf), .val (.int ql), .val (.ref b31), .val (.ref b99), .unset, .unset, .unset, .unset, .unset, .unset] [(.int (1 : Int32))])) (fun _ k => XS.iconst X244.here hx rfl (hb hby at_354) k) ?_
                    refine Go.via (S' := T244.setTop (mkF m 359 #[.val (.long q1), .second, .val (.long q2), .second, .val (.int p3), .val (.int p4), .val (.int p5), .val (.int p6), .val (.int r1), .val (.int r3), .val (.int r5), .val (.int r7), .val (.int r9), .val (.int r11), .val (.int k1), .val (.int k2), .val (.int k3), .val (.int m0), .val (.int m1), .val (.int m2), .val (.int m3), .val (.int m4), .val (.int m5), .val (.int qf), .val (.int ql), .val (.ref b31), .val (.ref b99), .unset, .unset, .unset, .unset, .unset, .unset] [(.int (1 : Int32))])) (fun _ k => XS.goto X244.here hx rfl (pc0 := 355) (pc' := 359) rfl (hb hby at_355) (by decide) (by decide) k) ?_
                    exact J359 _ (Or.inl ⟨rfl, hc302, hc309, hc316, hc323, hc330, hc337, hc344, hc351⟩)
                  · refine Go.via (S' := T244.setTop (mkF m 358 #[.val (.long q1), .second, .val (.long q2), .second, .val (.int p3), .val (.int p4), .val (.int p5), .val (.int p6), .val (.int r1), .val (.int r3), .val (.int r5), .val (.int r7), .val (.int r9), .val (.int r11), .val (.int k1), .val (.int k2), .val (.int k3), .val (.int m0), .val (.int m1), .val (.int m2), .val (.int m3), .val (.int m4), .val (.int m5), .val (.int qf), .val (.int ql), .val (.ref b31), .val (.ref b99), .unset, .unset, .unset, .unset, .unset, .unset] [])) (fun _ k => XS.icmpYes X244.here hx rfl (pc0 := 351) (pc' := 358) rfl (hb hby at_351) rfl (feq hc351).2 (by decide) (by decide) k) ?_
                    refine Go.via (S' := T244.setTop (mkF m 359 #[.val (.long q1), .second, .val (.long q2), .second, .val (.int p3), .val (.int p4), .val (.int p5), .val (.int p6), .val (.int r1), .val (.int r3), .val (.int r5), .val (.int r7), .val (.int r9), .val (.int r11), .val (.int k1), .val (.int k2), .val (.int k3), .val (.int m0), .val (.int m1), .val (.int m2), .val (.int m3), .val (.int m4), .val (.int m5), .val (.int qf), .val (.int ql), .val (.ref b31), .val (.ref b99), .unset, .unset, .unset, .unset, .unset, .unset] [(.int (0 : Int32))])) (fun _ k => XS.iconst X244.here hx rfl (hb hby at_358) k) ?_
                    exact J359 _ (Or.inr ⟨rfl, fun q => hc351 q.2.2.2.2.2.2.2⟩)
                · refine Go.via (S' := T244.setTop (mkF m 358 #[.val (.long q1), .second, .val (.long q2), .second, .val (.int p3), .val (.int p4), .val (.int p5), .val (.int p6), .val (.int r1), .val (.int r3), .val (.int r5), .val (.int r7), .val (.int r9), .val (.int r11), .val (.int k1), .val (.int k2), .val (.int k3), .val (.int m0), .val (.int m1), .val (.int m2), .val (.int m3), .val (.int m4), .val (.int m5), .val (.int qf), .val (.int ql), .val (.ref b31), .val (.ref b99), .unset, .unset, .unset, .unset, .unset, .unset] [])) (fun _ k => XS.icmpYes X244.here hx rfl (pc0 := 344) (pc' := 358) rfl (hb hby at_344) rfl (feq hc344).2 (by decide) (by decide) k) ?_
                  refine Go.via (S' := T244.setTop (mkF m 359 #[.val (.long q1), .second, .val (.long q2), .second, .val (.int p3), .val (.int p4), .val (.int p5), .val (.int p6), .val (.int r1), .val (.int r3), .val (.int r5), .val (.int r7), .val (.int r9), .val (.int r11), .val (.int k1), .val (.int k2), .val (.int k3), .val (.int m0), .val (.int m1), .val (.int m2), .val (.int m3), .val (.int m4), .val (.int m5), .val (.int qf), .val (.int ql), .val (.ref b31), .val (.ref b99), .unset, .unset, .unset, .unset, .unset, .unset] [(.int (0 : Int32))])) (fun _ k => XS.iconst X244.here hx rfl (hb hby at_358) k) ?_
                  exact J359 _ (Or.inr ⟨rfl, fun q => hc344 q.2.2.2.2.2.2.1⟩)
              · refine Go.via (S' := T244.setTop (mkF m 358 #[.val (.long q1), .second, .val (.long q2), .second, .val (.int p3), .val (.int p4), .val (.int p5), .val (.int p6), .val (.int r1), .val (.int r3), .val (.int r5), .val (.int r7), .val (.int r9), .val (.int r11), .val (.int k1), .val (.int k2), .val (.int k3), .val (.int m0), .val (.int m1), .val (.int m2), .val (.int m3), .val (.int m4), .val (.int m5), .val (.int qf), .val (.int ql), .val (.ref b31), .val (.ref b99), .unset, .unset, .unset, .unset, .unset, .unset] [])) (fun _ k => XS.icmpYes X244.here hx rfl (pc0 := 337) (pc' := 358) rfl (hb hby at_337) rfl (feq hc337).2 (by decide) (by decide) k) ?_
                refine Go.via (S' := T244.setTop (mkF m 359 #[.val (.long q1), .second, .val (.long q2), .second, .val (.int p3), .val (.int p4), .val (.int p5), .val (.int p6), .val (.int r1), .val (.int r3), .val (.int r5), .val (.int r7), .val (.int r9), .val (.int r11), .val (.int k1), .val (.int k2), .val (.int k3), .val (.int m0), .val (.int m1), .val (.int m2), .val (.int m3), .val (.int m4), .val (.int m5), .val (.int qf), .val (.int ql), .val (.ref b31), .val (.ref b99), .unset, .unset, .unset, .unset, .unset, .unset] [(.int (0 : Int32))])) (fun _ k => XS.iconst X244.here hx rfl (hb hby at_358) k) ?_
                exact J359 _ (Or.inr ⟨rfl, fun q => hc337 q.2.2.2.2.2.1⟩)
            · refine Go.via (S' := T244.setTop (mkF m 358 #[.val (.long q1), .second, .val (.long q2), .second, .val (.int p3), .val (.int p4), .val (.int p5), .val (.int p6), .val (.int r1), .val (.int r3), .val (.int r5), .val (.int r7), .val (.int r9), .val (.int r11), .val (.int k1), .val (.int k2), .val (.int k3), .val (.int m0), .val (.int m1), .val (.int m2), .val (.int m3), .val (.int m4), .val (.int m5), .val (.int qf), .val (.int ql), .val (.ref b31), .val (.ref b99), .unset, .unset, .unset, .unset, .unset, .unset] [])) (fun _ k => XS.icmpYes X244.here hx rfl (pc0 := 330) (pc' := 358) rfl (hb hby at_330) rfl (feq hc330).2 (by decide) (by decide) k) ?_
              refine Go.via (S' := T244.setTop (mkF m 359 #[.val (.long q1), .second, .val (.long q2), .second, .val (.int p3), .val (.int p4), .val (.int p5), .val (.int p6), .val (.int r1), .val (.int r3), .val (.int r5), .val (.int r7), .val (.int r9), .val (.int r11), .val (.int k1), .val (.int k2), .val (.int k3), .val (.int m0), .val (.int m1), .val (.int m2), .val (.int m3), .val (.int m4), .val (.int m5), .val (.int qf), .val (.int ql), .val (.ref b31), .val (.ref b99), .unset, .unset, .unset, .unset, .unset, .unset] [(.int (0 : Int32))])) (fun _ k => XS.iconst X244.here hx rfl (hb hby at_358) k) ?_
              exact J359 _ (Or.inr ⟨rfl, fun q => hc330 q.2.2.2.2.1⟩)
          · refine Go.via (S' := T244.setTop (mkF m 358 #[.val (.long q1), .second, .val (.long q2), .second, .val (.int p3), .val (.int p4), .val (.int p5), .val (.int p6), .val (.int r1), .val (.int r3), .val (.int r5), .val (.int r7), .val (.int r9), .val (.int r11), .val (.int k1), .val (.int k2), .val (.int k3), .val (.int m0), .val (.int m1), .val (.int m2), .val (.int m3), .val (.int m4), .val (.int m5), .val (.int qf), .val (.int ql), .val (.ref b31), .val (.ref b99), .unset, .unset, .unset, .unset, .unset, .unset] [])) (fun _ k => XS.icmpYes X244.here hx rfl (pc0 := 323) (pc' := 358) rfl (hb hby at_323) rfl (feq hc323).2 (by decide) (by decide) k) ?_
            refine Go.via (S' := T244.setTop (mkF m 359 #[.val (.long q1), .second, .val (.long q2), .second, .val (.int p3), .val (.int p4), .val (.int p5), .val (.int p6), .val (.int r1), .val (.int r3), .val (.int r5), .val (.int r7), .val (.int r9), .val (.int r11), .val (.int k1), .val (.int k2), .val (.int k3), .val (.int m0), .val (.int m1), .val (.int m2), .val (.int m3), .val (.int m4), .val (.int m5), .val (.int qf), .val (.int ql), .val (.ref b31), .val (.ref b99), .unset, .unset, .unset, .unset, .unset, .unset] [(.int (0 : Int32))])) (fun _ k => XS.iconst X244.here hx rfl (hb hby at_358) k) ?_
            exact J359 _ (Or.inr ⟨rfl, fun q => hc323 q.2.2.2.1⟩)
        · refine Go.via (S' := T244.setTop (mkF m 358 #[.val (.long q1), .second, .val (.long q2), .second, .val (.int p3), .val (.int p4), .val (.int p5), .val (.int p6), .val (.int r1), .val (.int r3), .val (.int r5), .val (.int r7), .val (.int r9), .val (.int r11), .val (.int k1), .val (.int k2), .val (.int k3), .val (.int m0), .val (.int m1), .val (.int m2), .val (.int m3), .val (.int m4), .val (.int m5), .val (.int qf), .val (.int ql), .val (.ref b31), .val (.ref b99), .unset, .unset, .unset, .unset, .unset, .unset] [])) (fun _ k => XS.icmpYes X244.here hx rfl (pc0 := 316) (pc' := 358) rfl (hb hby at_316) rfl (feq hc316).2 (by decide) (by decide) k) ?_
          refine Go.via (S' := T244.setTop (mkF m 359 #[.val (.long q1), .second, .val (.long q2), .second, .val (.int p3), .val (.int p4), .val (.int p5), .val (.int p6), .val (.int r1), .val (.int r3), .val (.int r5), .val (.int r7), .val (.int r9), .val (.int r11), .val (.int k1), .val (.int k2), .val (.int k3), .val (.int m0), .val (.int m1), .val (.int m2), .val (.int m3), .val (.int m4), .val (.int m5), .val (.int qf), .val (.int ql), .val (.ref b31), .val (.ref b99), .unset, .unset, .unset, .unset, .unset, .unset] [(.int (0 : Int32))])) (fun _ k => XS.iconst X244.here hx rfl (hb hby at_358) k) ?_
          exact J359 _ (Or.inr ⟨rfl, fun q => hc316 q.2.2.1⟩)
      · refine Go.via (S' := T244.setTop (mkF m 358 #[.val (.long q1), .second, .val (.long q2), .second, .val (.int p3), .val (.int p4), .val (.int p5), .val (.int p6), .val (.int r1), .val (.int r3), .val (.int r5), .val (.int r7), .val (.int r9), .val (.int r11), .val (.int k1), .val (.int k2), .val (.int k3), .val (.int m0), .val (.int m1), .val (.int m2), .val (.int m3), .val (.int m4), .val (.int m5), .val (.int qf), .val (.int ql), .val (.ref b31), .val (.ref b99), .unset, .unset, .unset, .unset, .unset, .unset] [])) (fun _ k => XS.icmpYes X244.here hx rfl (pc0 := 309) (pc' := 358) rfl (hb hby at_309) rfl (feq hc309).2 (by decide) (by decide) k) ?_
        refine Go.via (S' := T244.setTop (mkF m 359 #[.val (.long q1), .second, .val (.long q2), .second, .val (.int p3), .val (.int p4), .val (.int p5), .val (.int p6), .val (.int r1), .val (.int r3), .val (.int r5), .val (.int r7), .val (.int r9), .val (.int r11), .val (.int k1), .val (.int k2), .val (.int k3), .val (.int m0), .val (.int m1), .val (.int m2), .val (.int m3), .val (.int m4), .val (.int m5), .val (.int qf), .val (.int ql), .val (.ref b31), .val (.ref b99), .unset, .unset, .unset, .unset, .unset, .unset] [(.int (0 : Int32))])) (fun _ k => XS.iconst X244.here hx rfl (hb hby at_358) k) ?_
        exact J359 _ (Or.inr ⟨rfl, fun q => hc309 q.2.1⟩)
    · refine Go.via (S' := T244.setTop (mkF m 358 #[.val (.long q1), .second, .val (.long q2), .second, .val (.int p3), .val (.int p4), .val (.int p5), .val (.int p6), .val (.int r1), .val (.int r3), .val (.int r5), .val (.int r7), .val (.int r9), .val (.int r11), .val (.int k1), .val (.int k2), .val (.int k3), .val (.int m0), .val (.int m1), .val (.int m2), .val (.int m3), .val (.int m4), .val (.int m5), .val (.int qf), .val (.int ql), .val (.ref b31), .val (.ref b99), .unset, .unset, .unset, .unset, .unset, .unset] [])) (fun _ k => XS.icmpYes X244.here hx rfl (pc0 := 302) (pc' := 358) rfl (hb hby at_302) rfl (feq hc302).2 (by decide) (by decide) k) ?_
      refine Go.via (S' := T244.setTop (mkF m 359 #[.val (.long q1), .second, .val (.long q2), .second, .val (.int p3), .val (.int p4), .val (.int p5), .val (.int p6), .val (.int r1), .val (.int r3), .val (.int r5), .val (.int r7), .val (.int r9), .val (.int r11), .val (.int k1), .val (.int k2), .val (.int k3), .val (.int m0), .val (.int m1), .val (.int m2), .val (.int m3), .val (.int m4), .val (.int m5), .val (.int qf), .val (.int ql), .val (.ref b31), .val (.ref b99), .unset, .unset, .unset, .unset, .unset, .unset] [(.int (0 : Int32))])) (fun _ k => XS.iconst X244.here hx rfl (hb hby at_358) k) ?_
      exact J359 _ (Or.inr ⟨rfl, fun q => hc302 q.1⟩)
  intro ex hex
  rcases hex with ⟨rfl, hex⟩ | ⟨rfl, hex⟩
  · refine Go.via (S' := T244.setTop (mkF m 361 #[.val (.long q1), .second, .val (.long q2), .second, .val (.int p3), .val (.int p4), .val (.int p5), .val (.int p6), .val (.int r1), .val (.int r3), .val (.int r5), .val (.int r7), .val (.int r9), .val (.int r11), .val (.int k1), .val (.int k2), .val (.int k3), .val (.int m0), .val (.int m1), .val (.int m2), .val (.int m3), .val (.int m4), .val (.int m5), .val (.int qf), .val (.int ql), .val (.ref b31), .val (.ref b99), .val (.int (1 : Int32)), .unset, .unset, .unset, .unset, .unset] [])) (fun _ k => XS.istore X244.here hx rfl (hb hby at_359) rfl (l' := #[.val (.long q1), .second, .val (.long q2), .second, .val (.int p3), .val (.int p4), .val (.int p5), .val (.int p6), .val (.int r1), .val (.int r3), .val (.int r5), .val (.int r7), .val (.int r9), .val (.int r11), .val (.int k1), .val (.int k2), .val (.int k3), .val (.int m0), .val (.int m1), .val (.int m2), .val (.int m3), .val (.int m4), .val (.int m5), .val (.int qf), .val (.int ql), .val (.ref b31), .val (.ref b99), .val (.int (1 : Int32)), .unset, .unset, .unset, .unset, .unset]) rfl k) ?_
    refine Go.via (S' := T244.setTop (mkF m 363 #[.val (.long q1), .second, .val (.long q2), .second, .val (.int p3), .val (.int p4), .val (.int p5), .val (.int p6), .val (.int r1), .val (.int r3), .val (.int r5), .val (.int r7), .val (.int r9), .val (.int r11), .val (.int k1), .val (.int k2), .val (.int k3), .val (.int m0), .val (.int m1), .val (.int m2), .val (.int m3), .val (.int m4), .val (.int m5), .val (.int qf), .val (.int ql), .val (.ref b31), .val (.ref b99), .val (.int (1 : Int32)), .unset, .unset, .unset, .unset, .unset] [(.ref b31)])) (fun _ k => XS.aload X244.here hx rfl (hb hby at_361) rfl rfl k) ?_
    refine Go.via (S' := T244.setTop (mkF m 365 #[.val (.long q1), .second, .val (.long q2), .second, .val (.int p3), .val (.int p4), .val (.int p5), .val (.int p6), .val (.int r1), .val (.int r3), .val (.int r5), .val (.int r7), .val (.int r9), .val (.int r11), .val (.int k1), .val (.int k2), .val (.int k3), .val (.int m0), .val (.int m1), .val (.int m2), .val (.int m3), .val (.int m4), .val (.int m5), .val (.int qf), .val (.int ql), .val (.ref b31), .val (.ref b99), .val (.int (1 : Int32)), .unset, .unset, .unset, .unset, .unset] [(.ref b99), (.ref b31)])) (fun _ k => XS.aload X244.here hx rfl (hb hby at_363) rfl rfl k) ?_
    obtain ⟨cq261, kq261, q261a, q261b, q261c⟩ := isOf hZ rfl f247
    obtain ⟨_, _, ⟨T261, L261, k261, n261⟩, -, X261, ⟨Lc261, hQ261, l261, y261, z261⟩, st261⟩ := X244.virtualBack hx (y := (⟨"com/example/amendatory/amendatory/Provision", "equals", "(Ljava/lang/Object;)Z"⟩ : MethodName)) (z := (⟨"com/example/amendatory/amendatory/Provision", "equals", "(Ljava/lang/Object;)Z"⟩ : MethodName)) hown (mvT hZ (hw _ (List.mem_of_getElem? (i := 55) rfl))) (mvT hZ (hw _ (List.mem_of_getElem? (i := 56) rfl))) (notFace_of_selects (args := #[]) (mvT hZ (hw _ (List.mem_of_getElem? (i := 58) rfl)))) (mvT hZ (hw _ (List.mem_of_getElem? (i := 58) rfl))) (mvT hZ (hw _ (List.mem_of_getElem? (i := 57) rfl))) (by decide) (backOf (W := 0) (rm10 l Z a0 hw [] b31 b99 G1 p4 p5 qf ql r40 t40 [r1, r3] r52 t52 [r5, r7] r69 t69 [r9, r11] r124 t124 [m0, m1] r159 t159 [m2, m3] r199 t199 [m4, m5] T244.heap n0 z260 f246 O2 P5 f248 f249 f250 f257 f258 f259 f251 f252 f253 f254 f255 F_number244 F_designation244 F_opening244 F_firstLine244 F_lastLine244 f256) hZ (hw _ (List.mem_of_getElem? (i := 59) rfl)) (hw _ (List.mem_of_getElem? (i := 7) rfl)) (by decide) (by decide)) q261a q261c (g := (mkF m 365 #[.val (.long q1), .second, .val (.long q2), .second, .val (.int p3), .val (.int p4), .val (.int p5), .val (.int p6), .val (.int r1), .val (.int r3), .val (.int r5), .val (.int r7), .val (.int r9), .val (.int r11), .val (.int k1), .val (.int k2), .val (.int k3), .val (.int m0), .val (.int m1), .val (.int m2), .val (.int m3), .val (.int m4), .val (.int m5), .val (.int qf), .val (.int ql), .val (.ref b31), .val (.ref b99), .val (.int (1 : Int32)), .unset, .unset, .unset, .unset, .unset] [(.ref b99), (.ref b31)])) rfl (by rw [hml]; rfl) (Steps.refl _) (argsL := [(.ref b99)]) (rest := []) (lenOf pd_1 rfl) rfl (by show 2 * 0 + _ ≤ _; exact Nat.le_of_eq rfl) (hb hby at_365) (fun _ _ => ⟨rfl, rfl, (by decide : 20 + 0 ≤ _), (by decide : 58 + 0 ≤ _)⟩)
    dsimp only [Pt.U, Pt.locs, Pt.cells, Pt.slots] at X261 l261 y261 z261 st261 hQ261
    subst l261 y261 z261
    obtain ⟨r261, rfl, N261q, e261, hr261⟩ := hQ261
    have N262 := Fr.app N245 N261q
    refine Go.via (S' := T261.setTop (mkF m 368 #[.val (.long q1), .second, .val (.long q2), .second, .val (.int p3), .val (.int p4), .val (.int p5), .val (.int p6), .val (.int r1), .val (.int r3), .val (.int r5), .val (.int r7), .val (.int r9), .val (.int r11), .val (.int k1), .val (.int k2), .val (.int k3), .val (.int m0), .val (.int m1), .val (.int m2), .val (.int m3), .val (.int m4), .val (.int m5), .val (.int qf), .val (.int ql), .val (.ref b31), .val (.ref b99), .val (.int (1 : Int32)), .unset, .unset, .unset, .unset, .unset] [(.int r261)])) (fun _ k => st261.trans k) ?_
    rcases hr261 with ⟨rfl, hB261⟩ | ⟨rfl, hB261⟩
    · refine Go.via (S' := T261.setTop (mkF m 370 #[.val (.long q1), .second, .val (.long q2), .second, .val (.int p3), .val (.int p4), .val (.int p5), .val (.int p6), .val (.int r1), .val (.int r3), .val (.int r5), .val (.int r7), .val (.int r9), .val (.int r11), .val (.int k1), .val (.int k2), .val (.int k3), .val (.int m0), .val (.int m1), .val (.int m2), .val (.int m3), .val (.int m4), .val (.int m5), .val (.int qf), .val (.int ql), .val (.ref b31), .val (.ref b99), .val (.int (1 : Int32)), .val (.int (1 : Int32)), .unset, .unset, .unset, .unset] [])) (fun _ k => XS.istore X261.here hx rfl (hb hby at_368) rfl (l' := #[.val (.long q1), .second, .val (.long q2), .second, .val (.int p3), .val (.int p4), .val (.int p5), .val (.int p6), .val (.int r1), .val (.int r3), .val (.int r5), .val (.int r7), .val (.int r9), .val (.int r11), .val (.int k1), .val (.int k2), .val (.int k3), .val (.int m0), .val (.int m1), .val (.int m2), .val (.int m3), .val (.int m4), .val (.int m5), .val (.int qf), .val (.int ql), .val (.ref b31), .val (.ref b99), .val (.int (1 : Int32)), .val (.int (1 : Int32)), .unset, .unset, .unset, .unset]) rfl k) ?_
      refine Go.via (S' := T261.setTop (mkF m 372 #[.val (.long q1), .second, .val (.long q2), .second, .val (.int p3), .val (.int p4), .val (.int p5), .val (.int p6), .val (.int r1), .val (.int r3), .val (.int r5), .val (.int r7), .val (.int r9), .val (.int r11), .val (.int k1), .val (.int k2), .val (.int k3), .val (.int m0), .val (.int m1), .val (.int m2), .val (.int m3), .val (.int m4), .val (.int m5), .val (.int qf), .val (.int ql), .val (.ref b31), .val (.ref b99), .val (.int (1 : Int32)), .val (.int (1 : Int32)), .unset, .unset, .unset, .unset] [(.ref b99)])) (fun _ k => XS.aload X261.here hx rfl (hb hby at_370) rfl rfl k) ?_
      refine Go.via (S' := T261.setTop (mkF m 374 #[.val (.long q1), .second, .val (.long q2), .second, .val (.int p3), .val (.int p4), .val (.int p5), .val (.int p6), .val (.int r1), .val (.int r3), .val (.int r5), .val (.int r7), .val (.int r9), .val (.int r11), .val (.int k1), .val (.int k2), .val (.int k3), .val (.int m0), .val (.int m1), .val (.int m2), .val (.int m3), .val (.int m4), .val (.int m5), .val (.int qf), .val (.int ql), .val (.ref b31), .val (.ref b99), .val (.int (1 : Int32)), .val (.int (1 : Int32)), .unset, .unset, .unset, .unset] [(.ref b31), (.ref b99)])) (fun _ k => XS.aload X261.here hx rfl (hb hby at_372) rfl rfl k) ?_
      obtain ⟨cq263, kq263, q263a, q263b, q263c⟩ := isOf hZ e261 f256
      obtain ⟨_, _, ⟨T263, L263, k263, n263⟩, -, X263, ⟨Lc263, hQ263, l263, y263, z263⟩, st263⟩ := X261.virtualBack hx (y := (⟨"com/example/amendatory/amendatory/Provision", "equals", "(Ljava/lang/Object;)Z"⟩ : MethodName)) (z := (⟨"com/example/amendatory/amendatory/Provision", "equals", "(Ljava/lang/Object;)Z"⟩ : MethodName)) hown (mvT hZ (hw _ (List.mem_of_getElem? (i := 55) rfl))) (mvT hZ (hw _ (List.mem_of_getElem? (i := 56) rfl))) (notFace_of_selects (args := #[]) (mvT hZ (hw _ (List.mem_of_getElem? (i := 58) rfl)))) (mvT hZ (hw _ (List.mem_of_getElem? (i := 58) rfl))) (mvT hZ (hw _ (List.mem_of_getElem? (i := 57) rfl))) (by decide) (backOf (W := 0) (rm10 l Z a0 hw [] b99 b31 G1 qf ql p4 p5 r124 t124 [m0, m1] r159 t159 [m2, m3] r199 t199 [m4, m5] r40 t40 [r1, r3] r52 t52 [r5, r7] r69 t69 [r9, r11] T244.heap n0 z260 f246 O2 P5 f257 f258 f259 f248 f249 f250 F_number244 F_designation244 F_opening244 F_firstLine244 F_lastLine244 f251 f252 f253 f254 f255 f247) hZ (hw _ (List.mem_of_getElem? (i := 59) rfl)) (hw _ (List.mem_of_getElem? (i := 7) rfl)) (by decide) (by decide)) q263a q263c (g := (mkF m 374 #[.val (.long q1), .second, .val (.long q2), .second, .val (.int p3), .val (.int p4), .val (.int p5), .val (.int p6), .val (.int r1), .val (.int r3), .val (.int r5), .val (.int r7), .val (.int r9), .val (.int r11), .val (.int k1), .val (.int k2), .val (.int k3), .val (.int m0), .val (.int m1), .val (.int m2), .val (.int m3), .val (.int m4), .val (.int m5), .val (.int qf), .val (.int ql), .val (.ref b31), .val (.ref b99), .val (.int (1 : Int32)), .val (.int (1 : Int32)), .unset, .unset, .unset, .unset] [(.ref b31), (.ref b99)])) rfl (by rw [hml]; rfl) (Steps.refl _) (argsL := [(.ref b31)]) (rest := []) (lenOf pd_1 rfl) rfl (by show 2 * 0 + _ ≤ _; exact Nat.le_of_eq rfl) (hb hby at_374) (fun _ _ => ⟨rfl, e261, (by decide : 20 + 0 ≤ _), (by decide : 58 + 0 ≤ _)⟩)
      dsimp only [Pt.U, Pt.locs, Pt.cells, Pt.slots] at X263 l263 y263 z263 st263 hQ263
      subst l263 y263 z263
      obtain ⟨r263, rfl, N263q, e263, hr263⟩ := hQ263
      have N264 := Fr.app N262 N263q
      refine Go.via (S' := T263.setTop (mkF m 377 #[.val (.long q1), .second, .val (.long q2), .second, .val (.int p3), .val (.int p4), .val (.int p5), .val (.int p6), .val (.int r1), .val (.int r3), .val (.int r5), .val (.int r7), .val (.int r9), .val (.int r11), .val (.int k1), .val (.int k2), .val (.int k3), .val (.int m0), .val (.int m1), .val (.int m2), .val (.int m3), .val (.int m4), .val (.int m5), .val (.int qf), .val (.int ql), .val (.ref b31), .val (.ref b99), .val (.int (1 : Int32)), .val (.int (1 : Int32)), .unset, .unset, .unset, .unset] [(.int r263)])) (fun _ k => st263.trans k) ?_
      rcases hr263 with ⟨rfl, hB263⟩ | ⟨rfl, hB263⟩
      · refine Go.via (S' := T263.setTop (mkF m 379 #[.val (.long q1), .second, .val (.long q2), .second, .val (.int p3), .val (.int p4), .val (.int p5), .val (.int p6), .val (.int r1), .val (.int r3), .val (.int r5), .val (.int r7), .val (.int r9), .val (.int r11), .val (.int k1), .val (.int k2), .val (.int k3), .val (.int m0), .val (.int m1), .val (.int m2), .val (.int m3), .val (.int m4), .val (.int m5), .val (.int qf), .val (.int ql), .val (.ref b31), .val (.ref b99), .val (.int (1 : Int32)), .val (.int (1 : Int32)), .val (.int (1 : Int32)), .unset, .unset, .unset] [])) (fun _ k => XS.istore X263.here hx rfl (hb hby at_377) rfl (l' := #[.val (.long q1), .second, .val (.long q2), .second, .val (.int p3), .val (.int p4), .val (.int p5), .val (.int p6), .val (.int r1), .val (.int r3), .val (.int r5), .val (.int r7), .val (.int r9), .val (.int r11), .val (.int k1), .val (.int k2), .val (.int k3), .val (.int m0), .val (.int m1), .val (.int m2), .val (.int m3), .val (.int m4), .val (.int m5), .val (.int qf), .val (.int ql), .val (.ref b31), .val (.ref b99), .val (.int (1 : Int32)), .val (.int (1 : Int32)), .val (.int (1 : Int32)), .unset, .unset, .unset]) rfl k) ?_
        refine Go.via (S' := T263.setTop (mkF m 381 #[.val (.long q1), .second, .val (.long q2), .second, .val (.int p3), .val (.int p4), .val (.int p5), .val (.int p6), .val (.int r1), .val (.int r3), .val (.int r5), .val (.int r7), .val (.int r9), .val (.int r11), .val (.int k1), .val (.int k2), .val (.int k3), .val (.int m0), .val (.int m1), .val (.int m2), .val (.int m3), .val (.int m4), .val (.int m5), .val (.int qf), .val (.int ql), .val (.ref b31), .val (.ref b99), .val (.int (1 : Int32)), .val (.int (1 : Int32)), .val (.int (1 : Int32)), .unset, .unset, .unset] [(.ref b31)])) (fun _ k => XS.aload X263.here hx rfl (hb hby at_379) rfl rfl k) ?_
        refine Go.via (S' := T263.setTop (mkF m 383 #[.val (.long q1), .second, .val (.long q2), .second, .val (.int p3), .val (.int p4), .val (.int p5), .val (.int p6), .val (.int r1), .val (.int r3), .val (.int r5), .val (.int r7), .val (.int r9), .val (.int r11), .val (.int k1), .val (.int k2), .val (.int k3), .val (.int m0), .val (.int m1), .val (.int m2), .val (.int m3), .val (.int m4), .val (.int m5), .val (.int qf), .val (.int ql), .val (.ref b31), .val (.ref b99), .val (.int (1 : Int32)), .val (.int (1 : Int32)), .val (.int (1 : Int32)), .unset, .unset, .unset] [(.ref b31), (.ref b31)])) (fun _ k => XS.aload X263.here hx rfl (hb hby at_381) rfl rfl k) ?_
        obtain ⟨cq265, kq265, q265a, q265b, q265c⟩ := isOf hZ e263 f247
        obtain ⟨_, _, ⟨T265, L265, k265, n265⟩, -, X265, ⟨Lc265, hQ265, l265, y265, z265⟩, st265⟩ := X263.virtualBack hx (y := (⟨"com/example/amendatory/amendatory/Provision", "equals", "(Ljava/lang/Object;)Z"⟩ : MethodName)) (z := (⟨"com/example/amendatory/amendatory/Provision", "equals", "(Ljava/lang/Object;)Z"⟩ : MethodName)) hown (mvT hZ (hw _ (List.mem_of_getElem? (i := 55) rfl))) (mvT hZ (hw _ (List.mem_of_getElem? (i := 56) rfl))) (notFace_of_selects (args := #[]) (mvT hZ (hw _ (List.mem_of_getElem? (i := 58) rfl)))) (mvT hZ (hw _ (List.mem_of_getElem? (i := 58) rfl))) (mvT hZ (hw _ (List.mem_of_getElem? (i := 57) rfl))) (by decide) (backOf (W := 0) (rm10 l Z a0 hw [] b31 b31 G1 p4 p5 p4 p5 r40 t40 [r1, r3] r52 t52 [r5, r7] r69 t69 [r9, r11] r40 t40 [r1, r3] r52 t52 [r5, r7] r69 t69 [r9, r11] T244.heap n0 z260 f246 O2 P5 f248 f249 f250 f248 f249 f250 f251 f252 f253 f254 f255 f251 f252 f253 f254 f255 f247) hZ (hw _ (List.mem_of_getElem? (i := 59) rfl)) (hw _ (List.mem_of_getElem? (i := 7) rfl)) (by decide) (by decide)) q265a q265c (g := (mkF m 383 #[.val (.long q1), .second, .val (.long q2), .second, .val (.int p3), .val (.int p4), .val (.int p5), .val (.int p6), .val (.int r1), .val (.int r3), .val (.int r5), .val (.int r7), .val (.int r9), .val (.int r11), .val (.int k1), .val (.int k2), .val (.int k3), .val (.int m0), .val (.int m1), .val (.int m2), .val (.int m3), .val (.int m4), .val (.int m5), .val (.int qf), .val (.int ql), .val (.ref b31), .val (.ref b99), .val (.int (1 : Int32)), .val (.int (1 : Int32)), .val (.int (1 : Int32)), .unset, .unset, .unset] [(.ref b31), (.ref b31)])) rfl (by rw [hml]; rfl) (Steps.refl _) (argsL := [(.ref b31)]) (rest := []) (lenOf pd_1 rfl) rfl (by show 2 * 0 + _ ≤ _; exact Nat.le_of_eq rfl) (hb hby at_383) (fun _ _ => ⟨rfl, e263, (by decide : 20 + 0 ≤ _), (by decide : 58 + 0 ≤ _)⟩)
        dsimp only [Pt.U, Pt.locs, Pt.cells, Pt.slots] at X265 l265 y265 z265 st265 hQ265
        subst l265 y265 z265
        obtain ⟨r265, rfl, N265q, e265, hr265⟩ := hQ265
        have N266 := Fr.app N264 N265q
        refine Go.via (S' := T265.setTop (mkF m 386 #[.val (.long q1), .second, .val (.long q2), .second, .val (.int p3), .val (.int p4), .val (.int p5), .val (.int p6), .val (.int r1), .val (.int r3), .val (.int r5), .val (.int r7), .val (.int r9), .val (.int r11), .val (.int k1), .val (.int k2), .val (.int k3), .val (.int m0), .val (.int m1), .val (.int m2), .val (.int m3), .val (.int m4), .val (.int m5), .val (.int qf), .val (.int ql), .val (.ref b31), .val (.ref b99), .val (.int (1 : Int32)), .val (.int (1 : Int32)), .val (.int (1 : Int32)), .unset, .unset, .unset] [(.int r265)])) (fun _ k => st265.trans k) ?_
        rcases hr265 with ⟨rfl, hB265⟩ | ⟨rfl, hB265⟩
        · refine Go.via (S' := T265.setTop (mkF m 388 #[.val (.long q1), .second, .val (.long q2), .second, .val (.int p3), .val (.int p4), .val (.int p5), .val (.int p6), .val (.int r1), .val (.int r3), .val (.int r5), .val (.int r7), .val (.int r9), .val (.int r11), .val (.int k1), .val (.int k2), .val (.int k3), .val (.int m0), .val (.int m1), .val (.int m2), .val (.int m3), .val (.int m4), .val (.int m5), .val (.int qf), .val (.int ql), .val (.ref b31), .val (.ref b99), .val (.int (1 : Int32)), .val (.int (1 : Int32)), .val (.int (1 : Int32)), .val (.int (1 : Int32)), .unset, .unset] [])) (fun _ k => XS.istore X265.here hx rfl (hb hby at_386) rfl (l' := #[.val (.long q1), .second, .val (.long q2), .second, .val (.int p3), .val (.int p4), .val (.int p5), .val (.int p6), .val (.int r1), .val (.int r3), .val (.int r5), .val (.int r7), .val (.int r9), .val (.int r11), .val (.int k1), .val (.int k2), .val (.int k3), .val (.int m0), .val (.int m1), .val (.int m2), .val (.int m3), .val (.int m4), .val (.int m5), .val (.int qf), .val (.int ql), .val (.ref b31), .val (.ref b99), .val (.int (1 : Int32)), .val (.int (1 : Int32)), .val (.int (1 : Int32)), .val (.int (1 : Int32)), .unset, .unset]) rfl k) ?_
          refine Go.via (S' := T265.setTop (mkF m 390 #[.val (.long q1), .second, .val (.long q2), .second, .val (.int p3), .val (.int p4), .val (.int p5), .val (.int p6), .val (.int r1), .val (.int r3), .val (.int r5), .val (.int r7), .val (.int r9), .val (.int r11), .val (.int k1), .val (.int k2), .val (.int k3), .val (.int m0), .val (.int m1), .val (.int m2), .val (.int m3), .val (.int m4), .val (.int m5), .val (.int qf), .val (.int ql), .val (.ref b31), .val (.ref b99), .val (.int (1 : Int32)), .val (.int (1 : Int32)), .val (.int (1 : Int32)), .val (.int (1 : Int32)), .unset, .unset] [(.ref b31)])) (fun _ k => XS.aload X265.here hx rfl (hb hby at_388) rfl rfl k) ?_
          refine Go.via (S' := T265.setTop (mkF m 391 #[.val (.long q1), .second, .val (.long q2), .second, .val (.int p3), .val (.int p4), .val (.int p5), .val (.int p6), .val (.int r1), .val (.int r3), .val (.int r5), .val (.int r7), .val (.int r9), .val (.int r11), .val (.int k1), .val (.int k2), .val (.int k3), .val (.int m0), .val (.int m1), .val (.int m2), .val (.int m3), .val (.int m4), .val (.int m5), .val (.int qf), .val (.int ql), .val (.ref b31), .val (.ref b99), .val (.int (1 : Int32)), .val (.int (1 : Int32)), .val (.int (1 : Int32)), .val (.int (1 : Int32)), .unset, .unset] [.null, (.ref b31)])) (fun _ k => XS.aconstNull X265.here hx rfl (hb hby at_390) k) ?_
          obtain ⟨cq267, kq267, q267a, q267b, q267c⟩ := isOf hZ e265 f247
          obtain ⟨_, _, ⟨T267, L267, k267, n267⟩, -, X267, ⟨Lc267, hQ267, l267, y267, z267⟩, st267⟩ := X265.virtualBack hx (y := (⟨"com/example/amendatory/amendatory/Provision", "equals", "(Ljava/lang/Object;)Z"⟩ : MethodName)) (z := (⟨"com/example/amendatory/amendatory/Provision", "equals", "(Ljava/lang/Object;)Z"⟩ : MethodName)) hown (mvT hZ (hw _ (List.mem_of_getElem? (i := 55) rfl))) (mvT hZ (hw _ (List.mem_of_getElem? (i := 56) rfl))) (notFace_of_selects (args := #[]) (mvT hZ (hw _ (List.mem_of_getElem? (i := 58) rfl)))) (mvT hZ (hw _ (List.mem_of_getElem? (i := 58) rfl))) (mvT hZ (hw _ (List.mem_of_getElem? (i := 57) rfl))) (by decide) (backOf (W := 0) (rm10n l Z a0 hw [] b31 T244.heap n0 z260) hZ (hw _ (List.mem_of_getElem? (i := 59) rfl)) (hw _ (List.mem_of_getElem? (i := 7) rfl)) (by decide) (by decide)) q267a q267c (g := (mkF m 391 #[.val (.long q1), .second, .val (.long q2), .second, .val (.int p3), .val (.int p4), .val (.int p5), .val (.int p6), .val (.int r1), .val (.int r3), .val (.int r5), .val (.int r7), .val (.int r9), .val (.int r11), .val (.int k1), .val (.int k2), .val (.int k3), .val (.int m0), .val (.int m1), .val (.int m2), .val (.int m3), .val (.int m4), .val (.int m5), .val (.int qf), .val (.int ql), .val (.ref b31), .val (.ref b99), .val (.int (1 : Int32)), .val (.int (1 : Int32)), .val (.int (1 : Int32)), .val (.int (1 : Int32)), .unset, .unset] [.null, (.ref b31)])) rfl (by rw [hml]; rfl) (Steps.refl _) (argsL := [.null]) (rest := []) (lenOf pd_1 rfl) rfl (by show 2 * 0 + _ ≤ _; exact Nat.le_of_eq rfl) (hb hby at_391) (fun _ _ => ⟨rfl, e265, (by decide : 20 + 0 ≤ _), (by decide : 58 + 0 ≤ _)⟩)
          dsimp only [Pt.U, Pt.locs, Pt.cells, Pt.slots] at X267 l267 y267 z267 st267 hQ267
          subst l267 y267 z267
          obtain ⟨rfl, N267q, e267⟩ := hQ267
          have N268 := Fr.app N266 N267q
          refine Go.via (S' := T267.setTop (mkF m 394 #[.val (.long q1), .second, .val (.long q2), .second, .val (.int p3), .val (.int p4), .val (.int p5), .val (.int p6), .val (.int r1), .val (.int r3), .val (.int r5), .val (.int r7), .val (.int r9), .val (.int r11), .val (.int k1), .val (.int k2), .val (.int k3), .val (.int m0), .val (.int m1), .val (.int m2), .val (.int m3), .val (.int m4), .val (.int m5), .val (.int qf), .val (.int ql), .val (.ref b31), .val (.ref b99), .val (.int (1 : Int32)), .val (.int (1 : Int32)), .val (.int (1 : Int32)), .val (.int (1 : Int32)), .unset, .unset] [(.int (0 : Int32))])) (fun _ k => st267.trans k) ?_
          refine Go.via (S' := T267.setTop (mkF m 396 #[.val (.long q1), .second, .val (.long q2), .second, .val (.int p3), .val (.int p4), .val (.int p5), .val (.int p6), .val (.int r1), .val (.int r3), .val (.int r5), .val (.int r7), .val (.int r9), .val (.int r11), .val (.int k1), .val (.int k2), .val (.int k3), .val (.int m0), .val (.int m1), .val (.int m2), .val (.int m3), .val (.int m4), .val (.int m5), .val (.int qf), .val (.int ql), .val (.ref b31), .val (.ref b99), .val (.int (1 : Int32)), .val (.int (1 : Int32)), .val (.int (1 : Int32)), .val (.int (1 : Int32)), .val (.int (0 : Int32)), .unset] [])) (fun _ k => XS.istore X267.here hx rfl (hb hby at_394) rfl (l' := #[.val (.long q1), .second, .val (.long q2), .second, .val (.int p3), .val (.int p4), .val (.int p5), .val (.int p6), .val (.int r1), .val (.int r3), .val (.int r5), .val (.int r7), .val (.int r9), .val (.int r11), .val (.int k1), .val (.int k2), .val (.int k3), .val (.int m0), .val (.int m1), .val (.int m2), .val (.int m3), .val (.int m4), .val (.int m5), .val (.int qf), .val (.int ql), .val (.ref b31), .val (.ref b99), .val (.int (1 : Int32)), .val (.int (1 : Int32)), .val (.int (1 : Int32)), .val (.int (1 : Int32)), .val (.int (0 : Int32)), .unset]) rfl k) ?_
          refine Go.via (S' := T267.setTop (mkF m 398 #[.val (.long q1), .second, .val (.long q2), .second, .val (.int p3), .val (.int p4), .val (.int p5), .val (.int p6), .val (.int r1), .val (.int r3), .val (.int r5), .val (.int r7), .val (.int r9), .val (.int r11), .val (.int k1), .val (.int k2), .val (.int k3), .val (.int m0), .val (.int m1), .val (.int m2), .val (.int m3), .val (.int m4), .val (.int m5), .val (.int qf), .val (.int ql), .val (.ref b31), .val (.ref b99), .val (.int (1 : Int32)), .val (.int (1 : Int32)), .val (.int (1 : Int32)), .val (.int (1 : Int32)), .val (.int (0 : Int32)), .unset] [(.ref b31)])) (fun _ k => XS.aload X267.here hx rfl (hb hby at_396) rfl rfl k) ?_
          refine Go.via (S' := T267.setTop (mkF m 400 #[.val (.long q1), .second, .val (.long q2), .second, .val (.int p3), .val (.int p4), .val (.int p5), .val (.int p6), .val (.int r1), .val (.int r3), .val (.int r5), .val (.int r7), .val (.int r9), .val (.int r11), .val (.int k1), .val (.int k2), .val (.int k3), .val (.int m0), .val (.int m1), .val (.int m2), .val (.int m3), .val (.int m4), .val (.int m5), .val (.int qf), .val (.int ql), .val (.ref b31), .val (.ref b99), .val (.int (1 : Int32)), .val (.int (1 : Int32)), .val (.int (1 : Int32)), .val (.int (1 : Int32)), .val (.int (0 : Int32)), .unset] [(.ref b31), (.ref b31)])) (fun _ k => XS.aload X267.here hx rfl (hb hby at_398) rfl rfl k) ?_
          obtain ⟨cq269, kq269, q269a, q269b, q269c⟩ := isOf hZ e267 f247
          obtain ⟨_, _, ⟨T269, L269, k269, n269⟩, -, X269, ⟨Lc269, hQ269, l269, y269, z269⟩, st269⟩ := X267.virtualBack hx (y := (⟨"com/example/amendatory/amendatory/Provision", "number", "()Ljava/lang/String;"⟩ : MethodName)) (z := (⟨"com/example/amendatory/amendatory/Provision", "number", "()Ljava/lang/String;"⟩ : MethodName)) hown (mvT hZ (hw _ (List.mem_of_getElem? (i := 72) rfl))) (mvT hZ (hw _ (List.mem_of_getElem? (i := 73) rfl))) (notFace_of_selects (args := #[]) (mvT hZ (hw _ (List.mem_of_getElem? (i := 75) rfl)))) (mvT hZ (hw _ (List.mem_of_getElem? (i := 75) rfl))) (mvT hZ (hw _ (List.mem_of_getElem? (i := 74) rfl))) (by decide) (backOf (W := 1) (rm13 l Z a0 hw [] b31 r40 T244.heap n0 z260 f251) hZ (hw _ (List.mem_of_getElem? (i := 76) rfl)) (hw _ (List.mem_of_getElem? (i := 7) rfl)) (by decide) (by decide)) q269a q269c (g := (mkF m 400 #[.val (.long q1), .second, .val (.long q2), .second, .val (.int p3), .val (.int p4), .val (.int p5), .val (.int p6), .val (.int r1), .val (.int r3), .val (.int r5), .val (.int r7), .val (.int r9), .val (.int r11), .val (.int k1), .val (.int k2), .val (.int k3), .val (.int m0), .val (.int m1), .val (.int m2), .val (.int m3), .val (.int m4), .val (.int m5), .val (.int qf), .val (.int ql), .val (.ref b31), .val (.ref b99), .val (.int (1 : Int32)), .val (.int (1 : Int32)), .val (.int (1 : Int32)), .val (.int (1 : Int32)), .val (.int (0 : Int32)), .unset] [(.ref b31), (.ref b31)])) rfl (by rw [hml]; rfl) (Steps.refl _) (argsL := []) (rest := [(.ref b31)]) (lenOf pd_5 rfl) rfl (by show 2 * 0 + _ ≤ _; exact Nat.le_of_eq rfl) (hb hby at_400) (fun _ _ => ⟨rfl, e267, (by decide : 20 + 0 ≤ _), (by decide : 58 + 0 ≤ _)⟩)
          dsimp only [Pt.U, Pt.locs, Pt.cells, Pt.slots] at X269 l269 y269 z269 st269 hQ269
          subst l269 y269 z269
          obtain ⟨rfl, N269q, e269⟩ := hQ269
          have N270 := Fr.app N268 N269q
          refine Go.via (S' := T269.setTop (mkF m 403 #[.val (.long q1), .second, .val (.long q2), .second, .val (.int p3), .val (.int p4), .val (.int p5), .val (.int p6), .val (.int r1), .val (.int r3), .val (.int r5), .val (.int r7), .val (.int r9), .val (.int r11), .val (.int k1), .val (.int k2), .val (.int k3), .val (.int m0), .val (.int m1), .val (.int m2), .val (.int m3), .val (.int m4), .val (.int m5), .val (.int qf), .val (.int ql), .val (.ref b31), .val (.ref b99), .val (.int (1 : Int32)), .val (.int (1 : Int32)), .val (.int (1 : Int32)), .val (.int (1 : Int32)), .val (.int (0 : Int32)), .unset] [(.ref r40), (.ref b31)])) (fun _ k => st269.trans k) ?_
          obtain ⟨_, _, _, _, es271, -⟩ := id f248
          obtain ⟨cq272, kq272, q272a, q272b, q272c⟩ := isOf hZ e269 f247
          obtain ⟨_, _, ⟨T272, L272, k272, n272⟩, -, X272, ⟨Lc272, hQ272, l272, y272, z272⟩, st272⟩ := X269.virtualBack hx (y := (⟨"com/example/amendatory/amendatory/Provision", "equals", "(Ljava/lang/Object;)Z"⟩ : MethodName)) (z := (⟨"com/example/amendatory/amendatory/Provision", "equals", "(Ljava/lang/Object;)Z"⟩ : MethodName)) hown (mvT hZ (hw _ (List.mem_of_getElem? (i := 55) rfl))) (mvT hZ (hw _ (List.mem_of_getElem? (i := 56) rfl))) (notFace_of_selects (args := #[]) (mvT hZ (hw _ (List.mem_of_getElem? (i := 58) rfl)))) (mvT hZ (hw _ (List.mem_of_getElem? (i := 58) rfl))) (mvT hZ (hw _ (List.mem_of_getElem? (i := 57) rfl))) (by decide) (backOf (W := 0) (rm10s l Z a0 hw [] b31 r40 T244.heap n0 z260 es271) hZ (hw _ (List.mem_of_getElem? (i := 59) rfl)) (hw _ (List.mem_of_getElem? (i := 7) rfl)) (by decide) (by decide)) q272a q272c (g := (mkF m 403 #[.val (.long q1), .second, .val (.long q2), .second, .val (.int p3), .val (.int p4), .val (.int p5), .val (.int p6), .val (.int r1), .val (.int r3), .val (.int r5), .val (.int r7), .val (.int r9), .val (.int r11), .val (.int k1), .val (.int k2), .val (.int k3), .val (.int m0), .val (.int m1), .val (.int m2), .val (.int m3), .val (.int m4), .val (.int m5), .val (.int qf), .val (.int ql), .val (.ref b31), .val (.ref b99), .val (.int (1 : Int32)), .val (.int (1 : Int32)), .val (.int (1 : Int32)), .val (.int (1 : Int32)), .val (.int (0 : Int32)), .unset] [(.ref r40), (.ref b31)])) rfl (by rw [hml]; rfl) (Steps.refl _) (argsL := [(.ref r40)]) (rest := []) (lenOf pd_1 rfl) rfl (by show 2 * 0 + _ ≤ _; exact Nat.le_of_eq rfl) (hb hby at_403) (fun _ _ => ⟨rfl, e269, (by decide : 20 + 0 ≤ _), (by decide : 58 + 0 ≤ _)⟩)
          dsimp only [Pt.U, Pt.locs, Pt.cells, Pt.slots] at X272 l272 y272 z272 st272 hQ272
          subst l272 y272 z272
          obtain ⟨rfl, N272q, e272⟩ := hQ272
          have N273 := Fr.app N270 N272q
          refine Go.via (S' := T272.setTop (mkF m 406 #[.val (.long q1), .second, .val (.long q2), .second, .val (.int p3), .val (.int p4), .val (.int p5), .val (.int p6), .val (.int r1), .val (.int r3), .val (.int r5), .val (.int r7), .val (.int r9), .val (.int r11), .val (.int k1), .val (.int k2), .val (.int k3), .val (.int m0), .val (.int m1), .val (.int m2), .val (.int m3), .val (.int m4), .val (.int m5), .val (.int qf), .val (.int ql), .val (.ref b31), .val (.ref b99), .val (.int (1 : Int32)), .val (.int (1 : Int32)), .val (.int (1 : Int32)), .val (.int (1 : Int32)), .val (.int (0 : Int32)), .unset] [(.int (0 : Int32))])) (fun _ k => st272.trans k) ?_
          refine Go.via (S' := T272.setTop (mkF m 408 #[.val (.long q1), .second, .val (.long q2), .second, .val (.int p3), .val (.int p4), .val (.int p5), .val (.int p6), .val (.int r1), .val (.int r3), .val (.int r5), .val (.int r7), .val (.int r9), .val (.int r11), .val (.int k1), .val (.int k2), .val (.int k3), .val (.int m0), .val (.int m1), .val (.int m2), .val (.int m3), .val (.int m4), .val (.int m5), .val (.int qf), .val (.int ql), .val (.ref b31), .val (.ref b99), .val (.int (1 : Int32)), .val (.int (1 : Int32)), .val (.int (1 : Int32)), .val (.int (1 : Int32)), .val (.int (0 : Int32)), .val (.int (0 : Int32))] [])) (fun _ k => XS.istore X272.here hx rfl (hb hby at_406) rfl (l' := #[.val (.long q1), .second, .val (.long q2), .second, .val (.int p3), .val (.int p4), .val (.int p5), .val (.int p6), .val (.int r1), .val (.int r3), .val (.int r5), .val (.int r7), .val (.int r9), .val (.int r11), .val (.int k1), .val (.int k2), .val (.int k3), .val (.int m0), .val (.int m1), .val (.int m2), .val (.int m3), .val (.int m4), .val (.int m5), .val (.int qf), .val (.int ql), .val (.ref b31), .val (.ref b99), .val (.int (1 : Int32)), .val (.int (1 : Int32)), .val (.int (1 : Int32)), .val (.int (1 : Int32)), .val (.int (0 : Int32)), .val (.int (0 : Int32))]) rfl k) ?_
          refine Go.via (S' := T272.setTop (mkF m 410 #[.val (.long q1), .second, .val (.long q2), .second, .val (.int p3), .val (.int p4), .val (.int p5), .val (.int p6), .val (.int r1), .val (.int r3), .val (.int r5), .val (.int r7), .val (.int r9), .val (.int r11), .val (.int k1), .val (.int k2), .val (.int k3), .val (.int m0), .val (.int m1), .val (.int m2), .val (.int m3), .val (.int m4), .val (.int m5), .val (.int qf), .val (.int ql), .val (.ref b31), .val (.ref b99), .val (.int (1 : Int32)), .val (.int (1 : Int32)), .val (.int (1 : Int32)), .val (.int (1 : Int32)), .val (.int (0 : Int32)), .val (.int (0 : Int32))] [(.int (1 : Int32))])) (fun _ k => XS.iload X272.here hx rfl (hb hby at_408) rfl k) ?_
          refine Go.via (S' := T272.setTop (mkF m 412 #[.val (.long q1), .second, .val (.long q2), .second, .val (.int p3), .val (.int p4), .val (.int p5), .val (.int p6), .val (.int r1), .val (.int r3), .val (.int r5), .val (.int r7), .val (.int r9), .val (.int r11), .val (.int k1), .val (.int k2), .val (.int k3), .val (.int m0), .val (.int m1), .val (.int m2), .val (.int m3), .val (.int m4), .val (.int m5), .val (.int qf), .val (.int ql), .val (.ref b31), .val (.ref b99), .val (.int (1 : Int32)), .val (.int (1 : Int32)), .val (.int (1 : Int32)), .val (.int (1 : Int32)), .val (.int (0 : Int32)), .val (.int (0 : Int32))] [(.int (1 : Int32)), (.int (1 : Int32))])) (fun _ k => XS.iload X272.here hx rfl (hb hby at_410) rfl k) ?_
          refine Go.via (S' := T272.setTop (mkF m 415 #[.val (.long q1), .second, .val (.long q2), .second, .val (.int p3), .val (.int p4), .val (.int p5), .val (.int p6), .val (.int r1), .val (.int r3), .val (.int r5), .val (.int r7), .val (.int r9), .val (.int r11), .val (.int k1), .val (.int k2), .val (.int k3), .val (.int m0), .val (.int m1), .val (.int m2), .val (.int m3), .val (.int m4), .val (.int m5), .val (.int qf), .val (.int ql), .val (.ref b31), .val (.ref b99), .val (.int (1 : Int32)), .val (.int (1 : Int32)), .val (.int (1 : Int32)), .val (.int (1 : Int32)), .val (.int (0 : Int32)), .val (.int (0 : Int32))] [])) (fun _ k => XS.icmpNo X272.here hx rfl (hb hby at_412) rfl (teq (by decide)).2 k) ?_
          refine Go.via (S' := T272.setTop (mkF m 417 #[.val (.long q1), .second, .val (.long q2), .second, .val (.int p3), .val (.int p4), .val (.int p5), .val (.int p6), .val (.int r1), .val (.int r3), .val (.int r5), .val (.int r7), .val (.int r9), .val (.int r11), .val (.int k1), .val (.int k2), .val (.int k3), .val (.int m0), .val (.int m1), .val (.int m2), .val (.int m3), .val (.int m4), .val (.int m5), .val (.int qf), .val (.int ql), .val (.ref b31), .val (.ref b99), .val (.int (1 : Int32)), .val (.int (1 : Int32)), .val (.int (1 : Int32)), .val (.int (1 : Int32)), .val (.int (0 : Int32)), .val (.int (0 : Int32))] [(.int (1 : Int32))])) (fun _ k => XS.iload X272.here hx rfl (hb hby at_415) rfl k) ?_
          refine Go.via (S' := T272.setTop (mkF m 419 #[.val (.long q1), .second, .val (.long q2), .second, .val (.int p3), .val (.int p4), .val (.int p5), .val (.int p6), .val (.int r1), .val (.int r3), .val (.int r5), .val (.int r7), .val (.int r9), .val (.int r11), .val (.int k1), .val (.int k2), .val (.int k3), .val (.int m0), .val (.int m1), .val (.int m2), .val (.int m3), .val (.int m4), .val (.int m5), .val (.int qf), .val (.int ql), .val (.ref b31), .val (.ref b99), .val (.int (1 : Int32)), .val (.int (1 : Int32)), .val (.int (1 : Int32)), .val (.int (1 : Int32)), .val (.int (0 : Int32)), .val (.int (0 : Int32))] [(.int (1 : Int32)), (.int (1 : Int32))])) (fun _ k => XS.iload X272.here hx rfl (hb hby at_417) rfl k) ?_
          refine Go.via (S' := T272.setTop (mkF m 422 #[.val (.long q1), .second, .val (.long q2), .second, .val (.int p3), .val (.int p4), .val (.int p5), .val (.int p6), .val (.int r1), .val (.int r3), .val (.int r5), .val (.int r7), .val (.int r9), .val (.int r11), .val (.int k1), .val (.int k2), .val (.int k3), .val (.int m0), .val (.int m1), .val (.int m2), .val (.int m3), .val (.int m4), .val (.int m5), .val (.int qf), .val (.int ql), .val (.ref b31), .val (.ref b99), .val (.int (1 : Int32)), .val (.int (1 : Int32)), .val (.int (1 : Int32)), .val (.int (1 : Int32)), .val (.int (0 : Int32)), .val (.int (0 : Int32))] [])) (fun _ k => XS.icmpNo X272.here hx rfl (hb hby at_419) rfl (teq (by decide)).2 k) ?_
          refine Go.via (S' := T272.setTop (mkF m 424 #[.val (.long q1), .second, .val (.long q2), .second, .val (.int p3), .val (.int p4), .val (.int p5), .val (.int p6), .val (.int r1), .val (.int r3), .val (.int r5), .val (.int r7), .val (.int r9), .val (.int r11), .val (.int k1), .val (.int k2), .val (.int k3), .val (.int m0), .val (.int m1), .val (.int m2), .val (.int m3), .val (.int m4), .val (.int m5), .val (.int qf), .val (.int ql), .val (.ref b31), .val (.ref b99), .val (.int (1 : Int32)), .val (.int (1 : Int32)), .val (.int (1 : Int32)), .val (.int (1 : Int32)), .val (.int (0 : Int32)), .val (.int (0 : Int32))] [(.int (1 : Int32))])) (fun _ k => XS.iload X272.here hx rfl (hb hby at_422) rfl k) ?_
          refine Go.via (S' := T272.setTop (mkF m 427 #[.val (.long q1), .second, .val (.long q2), .second, .val (.int p3), .val (.int p4), .val (.int p5), .val (.int p6), .val (.int r1), .val (.int r3), .val (.int r5), .val (.int r7), .val (.int r9), .val (.int r11), .val (.int k1), .val (.int k2), .val (.int k3), .val (.int m0), .val (.int m1), .val (.int m2), .val (.int m3), .val (.int m4), .val (.int m5), .val (.int qf), .val (.int ql), .val (.ref b31), .val (.ref b99), .val (.int (1 : Int32)), .val (.int (1 : Int32)), .val (.int (1 : Int32)), .val (.int (1 : Int32)), .val (.int (0 : Int32)), .val (.int (0 : Int32))] [])) (fun _ k => XS.ifNo X272.here hx rfl (hb hby at_424) rfl ((if0 _ _).trans (feq (by decide)).1) k) ?_
          refine Go.via (S' := T272.setTop (mkF m 429 #[.val (.long q1), .second, .val (.long q2), .second, .val (.int p3), .val (.int p4), .val (.int p5), .val (.int p6), .val (.int r1), .val (.int r3), .val (.int r5), .val (.int r7), .val (.int r9), .val (.int r11), .val (.int k1), .val (.int k2), .val (.int k3), .val (.int m0), .val (.int m1), .val (.int m2), .val (.int m3), .val (.int m4), .val (.int m5), .val (.int qf), .val (.int ql), .val (.ref b31), .val (.ref b99), .val (.int (1 : Int32)), .val (.int (1 : Int32)), .val (.int (1 : Int32)), .val (.int (1 : Int32)), .val (.int (0 : Int32)), .val (.int (0 : Int32))] [(.int (0 : Int32))])) (fun _ k => XS.iload X272.here hx rfl (hb hby at_427) rfl k) ?_
          refine Go.via (S' := T272.setTop (mkF m 432 #[.val (.long q1), .second, .val (.long q2), .second, .val (.int p3), .val (.int p4), .val (.int p5), .val (.int p6), .val (.int r1), .val (.int r3), .val (.int r5), .val (.int r7), .val (.int r9), .val (.int r11), .val (.int k1), .val (.int k2), .val (.int k3), .val (.int m0), .val (.int m1), .val (.int m2), .val (.int m3), .val (.int m4), .val (.int m5), .val (.int qf), .val (.int ql), .val (.ref b31), .val (.ref b99), .val (.int (1 : Int32)), .val (.int (1 : Int32)), .val (.int (1 : Int32)), .val (.int (1 : Int32)), .val (.int (0 : Int32)), .val (.int (0 : Int32))] [])) (fun _ k => XS.ifNo X272.here hx rfl (hb hby at_429) rfl ((if0 _ _).trans (teq (by decide)).2) k) ?_
          refine Go.via (S' := T272.setTop (mkF m 434 #[.val (.long q1), .second, .val (.long q2), .second, .val (.int p3), .val (.int p4), .val (.int p5), .val (.int p6), .val (.int r1), .val (.int r3), .val (.int r5), .val (.int r7), .val (.int r9), .val (.int r11), .val (.int k1), .val (.int k2), .val (.int k3), .val (.int m0), .val (.int m1), .val (.int m2), .val (.int m3), .val (.int m4), .val (.int m5), .val (.int qf), .val (.int ql), .val (.ref b31), .val (.ref b99), .val (.int (1 : Int32)), .val (.int (1 : Int32)), .val (.int (1 : Int32)), .val (.int (1 : Int32)), .val (.int (0 : Int32)), .val (.int (0 : Int32))] [(.int (0 : Int32))])) (fun _ k => XS.iload X272.here hx rfl (hb hby at_432) rfl k) ?_
          refine Go.via (S' := T272.setTop (mkF m 437 #[.val (.long q1), .second, .val (.long q2), .second, .val (.int p3), .val (.int p4), .val (.int p5), .val (.int p6), .val (.int r1), .val (.int r3), .val (.int r5), .val (.int r7), .val (.int r9), .val (.int r11), .val (.int k1), .val (.int k2), .val (.int k3), .val (.int m0), .val (.int m1), .val (.int m2), .val (.int m3), .val (.int m4), .val (.int m5), .val (.int qf), .val (.int ql), .val (.ref b31), .val (.ref b99), .val (.int (1 : Int32)), .val (.int (1 : Int32)), .val (.int (1 : Int32)), .val (.int (1 : Int32)), .val (.int (0 : Int32)), .val (.int (0 : Int32))] [])) (fun _ k => XS.ifNo X272.here hx rfl (hb hby at_434) rfl ((if0 _ _).trans (teq (by decide)).2) k) ?_
          refine Go.via (S' := T272.setTop (mkF m 438 #[.val (.long q1), .second, .val (.long q2), .second, .val (.int p3), .val (.int p4), .val (.int p5), .val (.int p6), .val (.int r1), .val (.int r3), .val (.int r5), .val (.int r7), .val (.int r9), .val (.int r11), .val (.int k1), .val (.int k2), .val (.int k3), .val (.int m0), .val (.int m1), .val (.int m2), .val (.int m3), .val (.int m4), .val (.int m5), .val (.int qf), .val (.int ql), .val (.ref b31), .val (.ref b99), .val (.int (1 : Int32)), .val (.int (1 : Int32)), .val (.int (1 : Int32)), .val (.int (1 : Int32)), .val (.int (0 : Int32)), .val (.int (0 : Int32))] [(.int (1 : Int32))])) (fun _ k => XS.iconst X272.here hx rfl (hb hby at_437) k) ?_
          refine Go.via (S' := T272.setTop (mkF m 442 #[.val (.long q1), .second, .val (.long q2), .second, .val (.int p3), .val (.int p4), .val (.int p5), .val (.int p6), .val (.int r1), .val (.int r3), .val (.int r5), .val (.int r7), .val (.int r9), .val (.int r11), .val (.int k1), .val (.int k2), .val (.int k3), .val (.int m0), .val (.int m1), .val (.int m2), .val (.int m3), .val (.int m4), .val (.int m5), .val (.int qf), .val (.int ql), .val (.ref b31), .val (.ref b99), .val (.int (1 : Int32)), .val (.int (1 : Int32)), .val (.int (1 : Int32)), .val (.int (1 : Int32)), .val (.int (0 : Int32)), .val (.int (0 : Int32))] [(.int (1 : Int32))])) (fun _ k => XS.goto X272.here hx rfl (pc0 := 438) (pc' := 442) rfl (hb hby at_438) (by decide) (by decide) k) ?_
          exact Go.retB X272 hx (BodyLoose.notSynchronized Bd) Bd.returns (hb hby at_442) rfl (by rw [e272]; exact ⟨rfl, N273⟩) (by decide) (by decide)
        · exfalso
          first | exact hB265 ⟨rfl, rfl, rfl, rfl, rfl⟩ | (simp only [List.cons.injEq, and_true] at hB265; obtain ⟨e1, e2, e3, e4, e5, e6, e7, e8⟩ := hex; exact hB265 ⟨⟨e1, e2⟩, ⟨e3, e4⟩, ⟨e5, e6⟩, e7, e8⟩) | (simp only [List.cons.injEq, and_true] at hB265; obtain ⟨⟨e1, e2⟩, ⟨e3, e4⟩, ⟨e5, e6⟩, e7, e8⟩ := hB265; exact hex ⟨e1, e2, e3, e4, e5, e6, e7, e8⟩) | (simp only [List.cons.injEq, and_true] at hB265; obtain ⟨e1, e2, e3, e4, e5, e6, e7, e8⟩ := hex; exact hB265 ⟨⟨e1.symm, e2.symm⟩, ⟨e3.symm, e4.symm⟩, ⟨e5.symm, e6.symm⟩, e7.symm, e8.symm⟩) | (simp only [List.cons.injEq, and_true] at hB265; obtain ⟨⟨e1, e2⟩, ⟨e3, e4⟩, ⟨e5, e6⟩, e7, e8⟩ := hB265; exact hex ⟨e1.symm, e2.symm, e3.symm, e4.symm, e5.symm, e6.symm, e7.symm, e8.symm⟩)
      · exfalso
        first | exact hB263 ⟨rfl, rfl, rfl, rfl, rfl⟩ | (simp only [List.cons.injEq, and_true] at hB263; obtain ⟨e1, e2, e3, e4, e5, e6, e7, e8⟩ := hex; exact hB263 ⟨⟨e1, e2⟩, ⟨e3, e4⟩, ⟨e5, e6⟩, e7, e8⟩) | (simp only [List.cons.injEq, and_true] at hB263; obtain ⟨⟨e1, e2⟩, ⟨e3, e4⟩, ⟨e5, e6⟩, e7, e8⟩ := hB263; exact hex ⟨e1, e2, e3, e4, e5, e6, e7, e8⟩) | (simp only [List.cons.injEq, and_true] at hB263; obtain ⟨e1, e2, e3, e4, e5, e6, e7, e8⟩ := hex; exact hB263 ⟨⟨e1.symm, e2.symm⟩, ⟨e3.symm, e4.symm⟩, ⟨e5.symm, e6.symm⟩, e7.symm, e8.symm⟩) | (simp only [List.cons.injEq, and_true] at hB263; obtain ⟨⟨e1, e2⟩, ⟨e3, e4⟩, ⟨e5, e6⟩, e7, e8⟩ := hB263; exact hex ⟨e1.symm, e2.symm, e3.symm, e4.symm, e5.symm, e6.symm, e7.symm, e8.symm⟩)
    · exfalso
      first | exact hB261 ⟨rfl, rfl, rfl, rfl, rfl⟩ | (simp only [List.cons.injEq, and_true] at hB261; obtain ⟨e1, e2, e3, e4, e5, e6, e7, e8⟩ := hex; exact hB261 ⟨⟨e1, e2⟩, ⟨e3, e4⟩, ⟨e5, e6⟩, e7, e8⟩) | (simp only [List.cons.injEq, and_true] at hB261; obtain ⟨⟨e1, e2⟩, ⟨e3, e4⟩, ⟨e5, e6⟩, e7, e8⟩ := hB261; exact hex ⟨e1, e2, e3, e4, e5, e6, e7, e8⟩) | (simp only [List.cons.injEq, and_true] at hB261; obtain ⟨e1, e2, e3, e4, e5, e6, e7, e8⟩ := hex; exact hB261 ⟨⟨e1.symm, e2.symm⟩, ⟨e3.symm, e4.symm⟩, ⟨e5.symm, e6.symm⟩, e7.symm, e8.symm⟩) | (simp only [List.cons.injEq, and_true] at hB261; obtain ⟨⟨e1, e2⟩, ⟨e3, e4⟩, ⟨e5, e6⟩, e7, e8⟩ := hB261; exact hex ⟨e1.symm, e2.symm, e3.symm, e4.symm, e5.symm, e6.symm, e7.symm, e8.symm⟩)
  · refine Go.via (S' := T244.setTop (mkF m 361 #[.val (.long q1), .second, .val (.long q2), .second, .val (.int p3), .val (.int p4), .val (.int p5), .val (.int p6), .val (.int r1), .val (.int r3), .val (.int r5), .val (.int r7), .val (.int r9), .val (.int r11), .val (.int k1), .val (.int k2), .val (.int k3), .val (.int m0), .val (.int m1), .val (.int m2), .val (.int m3), .val (.int m4), .val (.int m5), .val (.int qf), .val (.int ql), .val (.ref b31), .val (.ref b99), .val (.int (0 : Int32)), .unset, .unset, .unset, .unset, .unset] [])) (fun _ k => XS.istore X244.here hx rfl (hb hby at_359) rfl (l' := #[.val (.long q1), .second, .val (.long q2), .second, .val (.int p3), .val (.int p4), .val (.int p5), .val (.int p6), .val (.int r1), .val (.int r3), .val (.int r5), .val (.int r7), .val (.int r9), .val (.int r11), .val (.int k1), .val (.int k2), .val (.int k3), .val (.int m0), .val (.int m1), .val (.int m2), .val (.int m3), .val (.int m4), .val (.int m5), .val (.int qf), .val (.int ql), .val (.ref b31), .val (.ref b99), .val (.int (0 : Int32)), .unset, .unset, .unset, .unset, .unset]) rfl k) ?_
    refine Go.via (S' := T244.setTop (mkF m 363 #[.val (.long q1), .second, .val (.long q2), .second, .val (.int p3), .val (.int p4), .val (.int p5), .val (.int p6), .val (.int r1), .val (.int r3), .val (.int r5), .val (.int r7), .val (.int r9), .val (.int r11), .val (.int k1), .val (.int k2), .val (.int k3), .val (.int m0), .val (.int m1), .val (.int m2), .val (.int m3), .val (.int m4), .val (.int m5), .val (.int qf), .val (.int ql), .val (.ref b31), .val (.ref b99), .val (.int (0 : Int32)), .unset, .unset, .unset, .unset, .unset] [(.ref b31)])) (fun _ k => XS.aload X244.here hx rfl (hb hby at_361) rfl rfl k) ?_
    refine Go.via (S' := T244.setTop (mkF m 365 #[.val (.long q1), .second, .val (.long q2), .second, .val (.int p3), .val (.int p4), .val (.int p5), .val (.int p6), .val (.int r1), .val (.int r3), .val (.int r5), .val (.int r7), .val (.int r9), .val (.int r11), .val (.int k1), .val (.int k2), .val (.int k3), .val (.int m0), .val (.int m1), .val (.int m2), .val (.int m3), .val (.int m4), .val (.int m5), .val (.int qf), .val (.int ql), .val (.ref b31), .val (.ref b99), .val (.int (0 : Int32)), .unset, .unset, .unset, .unset, .unset] [(.ref b99), (.ref b31)])) (fun _ k => XS.aload X244.here hx rfl (hb hby at_363) rfl rfl k) ?_
    obtain ⟨cq274, kq274, q274a, q274b, q274c⟩ := isOf hZ rfl f247
    obtain ⟨_, _, ⟨T274, L274, k274, n274⟩, -, X274, ⟨Lc274, hQ274, l274, y274, z274⟩, st274⟩ := X244.virtualBack hx (y := (⟨"com/example/amendatory/amendatory/Provision", "equals", "(Ljava/lang/Object;)Z"⟩ : MethodName)) (z := (⟨"com/example/amendatory/amendatory/Provision", "equals", "(Ljava/lang/Object;)Z"⟩ : MethodName)) hown (mvT hZ (hw _ (List.mem_of_getElem? (i := 55) rfl))) (mvT hZ (hw _ (List.mem_of_getElem? (i := 56) rfl))) (notFace_of_selects (args := #[]) (mvT hZ (hw _ (List.mem_of_getElem? (i := 58) rfl)))) (mvT hZ (hw _ (List.mem_of_getElem? (i := 58) rfl))) (mvT hZ (hw _ (List.mem_of_getElem? (i := 57) rfl))) (by decide) (backOf (W := 0) (rm10 l Z a0 hw [] b31 b99 G1 p4 p5 qf ql r40 t40 [r1, r3] r52 t52 [r5, r7] r69 t69 [r9, r11] r124 t124 [m0, m1] r159 t159 [m2, m3] r199 t199 [m4, m5] T244.heap n0 z260 f246 O2 P5 f248 f249 f250 f257 f258 f259 f251 f252 f253 f254 f255 F_number244 F_designation244 F_opening244 F_firstLine244 F_lastLine244 f256) hZ (hw _ (List.mem_of_getElem? (i := 59) rfl)) (hw _ (List.mem_of_getElem? (i := 7) rfl)) (by decide) (by decide)) q274a q274c (g := (mkF m 365 #[.val (.long q1), .second, .val (.long q2), .second, .val (.int p3), .val (.int p4), .val (.int p5), .val (.int p6), .val (.int r1), .val (.int r3), .val (.int r5), .val (.int r7), .val (.int r9), .val (.int r11), .val (.int k1), .val (.int k2), .val (.int k3), .val (.int m0), .val (.int m1), .val (.int m2), .val (.int m3), .val (.int m4), .val (.int m5), .val (.int qf), .val (.int ql), .val (.ref b31), .val (.ref b99), .val (.int (0 : Int32)), .unset, .unset, .unset, .unset, .unset] [(.ref b99), (.ref b31)])) rfl (by rw [hml]; rfl) (Steps.refl _) (argsL := [(.ref b99)]) (rest := []) (lenOf pd_1 rfl) rfl (by show 2 * 0 + _ ≤ _; exact Nat.le_of_eq rfl) (hb hby at_365) (fun _ _ => ⟨rfl, rfl, (by decide : 20 + 0 ≤ _), (by decide : 58 + 0 ≤ _)⟩)
    dsimp only [Pt.U, Pt.locs, Pt.cells, Pt.slots] at X274 l274 y274 z274 st274 hQ274
    subst l274 y274 z274
    obtain ⟨r274, rfl, N274q, e274, hr274⟩ := hQ274
    have N275 := Fr.app N245 N274q
    refine Go.via (S' := T274.setTop (mkF m 368 #[.val (.long q1), .second, .val (.long q2), .second, .val (.int p3), .val (.int p4), .val (.int p5), .val (.int p6), .val (.int r1), .val (.int r3), .val (.int r5), .val (.int r7), .val (.int r9), .val (.int r11), .val (.int k1), .val (.int k2), .val (.int k3), .val (.int m0), .val (.int m1), .val (.int m2), .val (.int m3), .val (.int m4), .val (.int m5), .val (.int qf), .val (.int ql), .val (.ref b31), .val (.ref b99), .val (.int (0 : Int32)), .unset, .unset, .unset, .unset, .unset] [(.int r274)])) (fun _ k => st274.trans k) ?_
    rcases hr274 with ⟨rfl, hB274⟩ | ⟨rfl, hB274⟩
    · exfalso
      first | exact hB274 ⟨rfl, rfl, rfl, rfl, rfl⟩ | (simp only [List.cons.injEq, and_true] at hB274; obtain ⟨e1, e2, e3, e4, e5, e6, e7, e8⟩ := hex; exact hB274 ⟨⟨e1, e2⟩, ⟨e3, e4⟩, ⟨e5, e6⟩, e7, e8⟩) | (simp only [List.cons.injEq, and_true] at hB274; obtain ⟨⟨e1, e2⟩, ⟨e3, e4⟩, ⟨e5, e6⟩, e7, e8⟩ := hB274; exact hex ⟨e1, e2, e3, e4, e5, e6, e7, e8⟩) | (simp only [List.cons.injEq, and_true] at hB274; obtain ⟨e1, e2, e3, e4, e5, e6, e7, e8⟩ := hex; exact hB274 ⟨⟨e1.symm, e2.symm⟩, ⟨e3.symm, e4.symm⟩, ⟨e5.symm, e6.symm⟩, e7.symm, e8.symm⟩) | (simp only [List.cons.injEq, and_true] at hB274; obtain ⟨⟨e1, e2⟩, ⟨e3, e4⟩, ⟨e5, e6⟩, e7, e8⟩ := hB274; exact hex ⟨e1.symm, e2.symm, e3.symm, e4.symm, e5.symm, e6.symm, e7.symm, e8.symm⟩)
    · refine Go.via (S' := T274.setTop (mkF m 370 #[.val (.long q1), .second, .val (.long q2), .second, .val (.int p3), .val (.int p4), .val (.int p5), .val (.int p6), .val (.int r1), .val (.int r3), .val (.int r5), .val (.int r7), .val (.int r9), .val (.int r11), .val (.int k1), .val (.int k2), .val (.int k3), .val (.int m0), .val (.int m1), .val (.int m2), .val (.int m3), .val (.int m4), .val (.int m5), .val (.int qf), .val (.int ql), .val (.ref b31), .val (.ref b99), .val (.int (0 : Int32)), .val (.int (0 : Int32)), .unset, .unset, .unset, .unset] [])) (fun _ k => XS.istore X274.here hx rfl (hb hby at_368) rfl (l' := #[.val (.long q1), .second, .val (.long q2), .second, .val (.int p3), .val (.int p4), .val (.int p5), .val (.int p6), .val (.int r1), .val (.int r3), .val (.int r5), .val (.int r7), .val (.int r9), .val (.int r11), .val (.int k1), .val (.int k2), .val (.int k3), .val (.int m0), .val (.int m1), .val (.int m2), .val (.int m3), .val (.int m4), .val (.int m5), .val (.int qf), .val (.int ql), .val (.ref b31), .val (.ref b99), .val (.int (0 : Int32)), .val (.int (0 : Int32)), .unset, .unset, .unset, .unset]) rfl k) ?_
      refine Go.via (S' := T274.setTop (mkF m 372 #[.val (.long q1), .second, .val (.long q2), .second, .val (.int p3), .val (.int p4), .val (.int p5), .val (.int p6), .val (.int r1), .val (.int r3), .val (.int r5), .val (.int r7), .val (.int r9), .val (.int r11), .val (.int k1), .val (.int k2), .val (.int k3), .val (.int m0), .val (.int m1), .val (.int m2), .val (.int m3), .val (.int m4), .val (.int m5), .val (.int qf), .val (.int ql), .val (.ref b31), .val (.ref b99), .val (.int (0 : Int32)), .val (.int (0 : Int32)), .unset, .unset, .unset, .unset] [(.ref b99)])) (fun _ k => XS.aload X274.here hx rfl (hb hby at_370) rfl rfl k) ?_
      refine Go.via (S' := T274.setTop (mkF m 374 #[.val (.long q1), .second, .val (.long q2), .second, .val (.int p3), .val (.int p4), .val (.int p5), .val (.int p6), .val (.int r1), .val (.int r3), .val (.int r5), .val (.int r7), .val (.int r9), .val (.int r11), .val (.int k1), .val (.int k2), .val (.int k3), .val (.int m0), .val (.int m1), .val (.int m2), .val (.int m3), .val (.int m4), .val (.int m5), .val (.int qf), .val (.int ql), .val (.ref b31), .val (.ref b99), .val (.int (0 : Int32)), .val (.int (0 : Int32)), .unset, .unset, .unset, .unset] [(.ref b31), (.ref b99)])) (fun _ k => XS.aload X274.here hx rfl (hb hby at_372) rfl rfl k) ?_
      obtain ⟨cq276, kq276, q276a, q276b, q276c⟩ := isOf hZ e274 f256
      obtain ⟨_, _, ⟨T276, L276, k276, n276⟩, -, X276, ⟨Lc276, hQ276, l276, y276, z276⟩, st276⟩ := X274.virtualBack hx (y := (⟨"com/example/amendatory/amendatory/Provision", "equals", "(Ljava/lang/Object;)Z"⟩ : MethodName)) (z := (⟨"com/example/amendatory/amendatory/Provision", "equals", "(Ljava/lang/Object;)Z"⟩ : MethodName)) hown (mvT hZ (hw _ (List.mem_of_getElem? (i := 55) rfl))) (mvT hZ (hw _ (List.mem_of_getElem? (i := 56) rfl))) (notFace_of_selects (args := #[]) (mvT hZ (hw _ (List.mem_of_getElem? (i := 58) rfl)))) (mvT hZ (hw _ (List.mem_of_getElem? (i := 58) rfl))) (mvT hZ (hw _ (List.mem_of_getElem? (i := 57) rfl))) (by decide) (backOf (W := 0) (rm10 l Z a0 hw [] b99 b31 G1 qf ql p4 p5 r124 t124 [m0, m1] r159 t159 [m2, m3] r199 t199 [m4, m5] r40 t40 [r1, r3] r52 t52 [r5, r7] r69 t69 [r9, r11] T244.heap n0 z260 f246 O2 P5 f257 f258 f259 f248 f249 f250 F_number244 F_designation244 F_opening244 F_firstLine244 F_lastLine244 f251 f252 f253 f254 f255 f247) hZ (hw _ (List.mem_of_getElem? (i := 59) rfl)) (hw _ (List.mem_of_getElem? (i := 7) rfl)) (by decide) (by decide)) q276a q276c (g := (mkF m 374 #[.val (.long q1), .second, .val (.long q2), .second, .val (.int p3), .val (.int p4), .val (.int p5), .val (.int p6), .val (.int r1), .val (.int r3), .val (.int r5), .val (.int r7), .val (.int r9), .val (.int r11), .val (.int k1), .val (.int k2), .val (.int k3), .val (.int m0), .val (.int m1), .val (.int m2), .val (.int m3), .val (.int m4), .val (.int m5), .val (.int qf), .val (.int ql), .val (.ref b31), .val (.ref b99), .val (.int (0 : Int32)), .val (.int (0 : Int32)), .unset, .unset, .unset, .unset] [(.ref b31), (.ref b99)])) rfl (by rw [hml]; rfl) (Steps.refl _) (argsL := [(.ref b31)]) (rest := []) (lenOf pd_1 rfl) rfl (by show 2 * 0 + _ ≤ _; exact Nat.le_of_eq rfl) (hb hby at_374) (fun _ _ => ⟨rfl, e274, (by decide : 20 + 0 ≤ _), (by decide : 58 + 0 ≤ _)⟩)
      dsimp only [Pt.U, Pt.locs, Pt.cells, Pt.slots] at X276 l276 y276 z276 st276 hQ276
      subst l276 y276 z276
      obtain ⟨r276, rfl, N276q, e276, hr276⟩ := hQ276
      have N277 := Fr.app N275 N276q
      refine Go.via (S' := T276.setTop (mkF m 377 #[.val (.long q1), .second, .val (.long q2), .second, .val (.int p3), .val (.int p4), .val (.int p5), .val (.int p6), .val (.int r1), .val (.int r3), .val (.int r5), .val (.int r7), .val (.int r9), .val (.int r11), .val (.int k1), .val (.int k2), .val (.int k3), .val (.int m0), .val (.int m1), .val (.int m2), .val (.int m3), .val (.int m4), .val (.int m5), .val (.int qf), .val (.int ql), .val (.ref b31), .val (.ref b99), .val (.int (0 : Int32)), .val (.int (0 : Int32)), .unset, .unset, .unset, .unset] [(.int r276)])) (fun _ k => st276.trans k) ?_
      rcases hr276 with ⟨rfl, hB276⟩ | ⟨rfl, hB276⟩
      · exfalso
        first | exact hB276 ⟨rfl, rfl, rfl, rfl, rfl⟩ | (simp only [List.cons.injEq, and_true] at hB276; obtain ⟨e1, e2, e3, e4, e5, e6, e7, e8⟩ := hex; exact hB276 ⟨⟨e1, e2⟩, ⟨e3, e4⟩, ⟨e5, e6⟩, e7, e8⟩) | (simp only [List.cons.injEq, and_true] at hB276; obtain ⟨⟨e1, e2⟩, ⟨e3, e4⟩, ⟨e5, e6⟩, e7, e8⟩ := hB276; exact hex ⟨e1, e2, e3, e4, e5, e6, e7, e8⟩) | (simp only [List.cons.injEq, and_true] at hB276; obtain ⟨e1, e2, e3, e4, e5, e6, e7, e8⟩ := hex; exact hB276 ⟨⟨e1.symm, e2.symm⟩, ⟨e3.symm, e4.symm⟩, ⟨e5.symm, e6.symm⟩, e7.symm, e8.symm⟩) | (simp only [List.cons.injEq, and_true] at hB276; obtain ⟨⟨e1, e2⟩, ⟨e3, e4⟩, ⟨e5, e6⟩, e7, e8⟩ := hB276; exact hex ⟨e1.symm, e2.symm, e3.symm, e4.symm, e5.symm, e6.symm, e7.symm, e8.symm⟩)
      · refine Go.via (S' := T276.setTop (mkF m 379 #[.val (.long q1), .second, .val (.long q2), .second, .val (.int p3), .val (.int p4), .val (.int p5), .val (.int p6), .val (.int r1), .val (.int r3), .val (.int r5), .val (.int r7), .val (.int r9), .val (.int r11), .val (.int k1), .val (.int k2), .val (.int k3), .val (.int m0), .val (.int m1), .val (.int m2), .val (.int m3), .val (.int m4), .val (.int m5), .val (.int qf), .val (.int ql), .val (.ref b31), .val (.ref b99), .val (.int (0 : Int32)), .val (.int (0 : Int32)), .val (.int (0 : Int32)), .unset, .unset, .unset] [])) (fun _ k => XS.istore X276.here hx rfl (hb hby at_377) rfl (l' := #[.val (.long q1), .second, .val (.long q2), .second, .val (.int p3), .val (.int p4), .val (.int p5), .val (.int p6), .val (.int r1), .val (.int r3), .val (.int r5), .val (.int r7), .val (.int r9), .val (.int r11), .val (.int k1), .val (.int k2), .val (.int k3), .val (.int m0), .val (.int m1), .val (.int m2), .val (.int m3), .val (.int m4), .val (.int m5), .val (.int qf), .val (.int ql), .val (.ref b31), .val (.ref b99), .val (.int (0 : Int32)), .val (.int (0 : Int32)), .val (.int (0 : Int32)), .unset, .unset, .unset]) rfl k) ?_
        refine Go.via (S' := T276.setTop (mkF m 381 #[.val (.long q1), .second, .val (.long q2), .second, .val (.int p3), .val (.int p4), .val (.int p5), .val (.int p6), .val (.int r1), .val (.int r3), .val (.int r5), .val (.int r7), .val (.int r9), .val (.int r11), .val (.int k1), .val (.int k2), .val (.int k3), .val (.int m0), .val (.int m1), .val (.int m2), .val (.int m3), .val (.int m4), .val (.int m5), .val (.int qf), .val (.int ql), .val (.ref b31), .val (.ref b99), .val (.int (0 : Int32)), .val (.int (0 : Int32)), .val (.int (0 : Int32)), .unset, .unset, .unset] [(.ref b31)])) (fun _ k => XS.aload X276.here hx rfl (hb hby at_379) rfl rfl k) ?_
        refine Go.via (S' := T276.setTop (mkF m 383 #[.val (.long q1), .second, .val (.long q2), .second, .val (.int p3), .val (.int p4), .val (.int p5), .val (.int p6), .val (.int r1), .val (.int r3), .val (.int r5), .val (.int r7), .val (.int r9), .val (.int r11), .val (.int k1), .val (.int k2), .val (.int k3), .val (.int m0), .val (.int m1), .val (.int m2), .val (.int m3), .val (.int m4), .val (.int m5), .val (.int qf), .val (.int ql), .val (.ref b31), .val (.ref b99), .val (.int (0 : Int32)), .val (.int (0 : Int32)), .val (.int (0 : Int32)), .unset, .unset, .unset] [(.ref b31), (.ref b31)])) (fun _ k => XS.aload X276.here hx rfl (hb hby at_381) rfl rfl k) ?_
        obtain ⟨cq278, kq278, q278a, q278b, q278c⟩ := isOf hZ e276 f247
        obtain ⟨_, _, ⟨T278, L278, k278, n278⟩, -, X278, ⟨Lc278, hQ278, l278, y278, z278⟩, st278⟩ := X276.virtualBack hx (y := (⟨"com/example/amendatory/amendatory/Provision", "equals", "(Ljava/lang/Object;)Z"⟩ : MethodName)) (z := (⟨"com/example/amendatory/amendatory/Provision", "equals", "(Ljava/lang/Object;)Z"⟩ : MethodName)) hown (mvT hZ (hw _ (List.mem_of_getElem? (i := 55) rfl))) (mvT hZ (hw _ (List.mem_of_getElem? (i := 56) rfl))) (notFace_of_selects (args := #[]) (mvT hZ (hw _ (List.mem_of_getElem? (i := 58) rfl)))) (mvT hZ (hw _ (List.mem_of_getElem? (i := 58) rfl))) (mvT hZ (hw _ (List.mem_of_getElem? (i := 57) rfl))) (by decide) (backOf (W := 0) (rm10 l Z a0 hw [] b31 b31 G1 p4 p5 p4 p5 r40 t40 [r1, r3] r52 t52 [r5, r7] r69 t69 [r9, r11] r40 t40 [r1, r3] r52 t52 [r5, r7] r69 t69 [r9, r11] T244.heap n0 z260 f246 O2 P5 f248 f249 f250 f248 f249 f250 f251 f252 f253 f254 f255 f251 f252 f253 f254 f255 f247) hZ (hw _ (List.mem_of_getElem? (i := 59) rfl)) (hw _ (List.mem_of_getElem? (i := 7) rfl)) (by decide) (by decide)) q278a q278c (g := (mkF m 383 #[.val (.long q1), .second, .val (.long q2), .second, .val (.int p3), .val (.int p4), .val (.int p5), .val (.int p6), .val (.int r1), .val (.int r3), .val (.int r5), .val (.int r7), .val (.int r9), .val (.int r11), .val (.int k1), .val (.int k2), .val (.int k3), .val (.int m0), .val (.int m1), .val (.int m2), .val (.int m3), .val (.int m4), .val (.int m5), .val (.int qf), .val (.int ql), .val (.ref b31), .val (.ref b99), .val (.int (0 : Int32)), .val (.int (0 : Int32)), .val (.int (0 : Int32)), .unset, .unset, .unset] [(.ref b31), (.ref b31)])) rfl (by rw [hml]; rfl) (Steps.refl _) (argsL := [(.ref b31)]) (rest := []) (lenOf pd_1 rfl) rfl (by show 2 * 0 + _ ≤ _; exact Nat.le_of_eq rfl) (hb hby at_383) (fun _ _ => ⟨rfl, e276, (by decide : 20 + 0 ≤ _), (by decide : 58 + 0 ≤ _)⟩)
        dsimp only [Pt.U, Pt.locs, Pt.cells, Pt.slots] at X278 l278 y278 z278 st278 hQ278
        subst l278 y278 z278
        obtain ⟨r278, rfl, N278q, e278, hr278⟩ := hQ278
        have N279 := Fr.app N277 N278q
        refine Go.via (S' := T278.setTop (mkF m 386 #[.val (.long q1), .second, .val (.long q2), .second, .val (.int p3), .val (.int p4), .val (.int p5), .val (.int p6), .val (.int r1), .val (.int r3), .val (.int r5), .val (.int r7), .val (.int r9), .val (.int r11), .val (.int k1), .val (.int k2), .val (.int k3), .val (.int m0), .val (.int m1), .val (.int m2), .val (.int m3), .val (.int m4), .val (.int m5), .val (.int qf), .val (.int ql), .val (.ref b31), .val (.ref b99), .val (.int (0 : Int32)), .val (.int (0 : Int32)), .val (.int (0 : Int32)), .unset, .unset, .unset] [(.int r278)])) (fun _ k => st278.trans k) ?_
        rcases hr278 with ⟨rfl, hB278⟩ | ⟨rfl, hB278⟩
        · refine Go.via (S' := T278.setTop (mkF m 388 #[.val (.long q1), .second, .val (.long q2), .second, .val (.int p3), .val (.int p4), .val (.int p5), .val (.int p6), .val (.int r1), .val (.int r3), .val (.int r5), .val (.int r7), .val (.int r9), .val (.int r11), .val (.int k1), .val (.int k2), .val (.int k3), .val (.int m0), .val (.int m1), .val (.int m2), .val (.int m3), .val (.int m4), .val (.int m5), .val (.int qf), .val (.int ql), .val (.ref b31), .val (.ref b99), .val (.int (0 : Int32)), .val (.int (0 : Int32)), .val (.int (0 : Int32)), .val (.int (1 : Int32)), .unset, .unset] [])) (fun _ k => XS.istore X278.here hx rfl (hb hby at_386) rfl (l' := #[.val (.long q1), .second, .val (.long q2), .second, .val (.int p3), .val (.int p4), .val (.int p5), .val (.int p6), .val (.int r1), .val (.int r3), .val (.int r5), .val (.int r7), .val (.int r9), .val (.int r11), .val (.int k1), .val (.int k2), .val (.int k3), .val (.int m0), .val (.int m1), .val (.int m2), .val (.int m3), .val (.int m4), .val (.int m5), .val (.int qf), .val (.int ql), .val (.ref b31), .val (.ref b99), .val (.int (0 : Int32)), .val (.int (0 : Int32)), .val (.int (0 : Int32)), .val (.int (1 : Int32)), .unset, .unset]) rfl k) ?_
          refine Go.via (S' := T278.setTop (mkF m 390 #[.val (.long q1), .second, .val (.long q2), .second, .val (.int p3), .val (.int p4), .val (.int p5), .val (.int p6), .val (.int r1), .val (.int r3), .val (.int r5), .val (.int r7), .val (.int r9), .val (.int r11), .val (.int k1), .val (.int k2), .val (.int k3), .val (.int m0), .val (.int m1), .val (.int m2), .val (.int m3), .val (.int m4), .val (.int m5), .val (.int qf), .val (.int ql), .val (.ref b31), .val (.ref b99), .val (.int (0 : Int32)), .val (.int (0 : Int32)), .val (.int (0 : Int32)), .val (.int (1 : Int32)), .unset, .unset] [(.ref b31)])) (fun _ k => XS.aload X278.here hx rfl (hb hby at_388) rfl rfl k) ?_
          refine Go.via (S' := T278.setTop (mkF m 391 #[.val (.long q1), .second, .val (.long q2), .second, .val (.int p3), .val (.int p4), .val (.int p5), .val (.int p6), .val (.int r1), .val (.int r3), .val (.int r5), .val (.int r7), .val (.int r9), .val (.int r11), .val (.int k1), .val (.int k2), .val (.int k3), .val (.int m0), .val (.int m1), .val (.int m2), .val (.int m3), .val (.int m4), .val (.int m5), .val (.int qf), .val (.int ql), .val (.ref b31), .val (.ref b99), .val (.int (0 : Int32)), .val (.int (0 : Int32)), .val (.int (0 : Int32)), .val (.int (1 : Int32)), .unset, .unset] [.null, (.ref b31)])) (fun _ k => XS.aconstNull X278.here hx rfl (hb hby at_390) k) ?_
          obtain ⟨cq280, kq280, q280a, q280b, q280c⟩ := isOf hZ e278 f247
          obtain ⟨_, _, ⟨T280, L280, k280, n280⟩, -, X280, ⟨Lc280, hQ280, l280, y280, z280⟩, st280⟩ := X278.virtualBack hx (y := (⟨"com/example/amendatory/amendatory/Provision", "equals", "(Ljava/lang/Object;)Z"⟩ : MethodName)) (z := (⟨"com/example/amendatory/amendatory/Provision", "equals", "(Ljava/lang/Object;)Z"⟩ : MethodName)) hown (mvT hZ (hw _ (List.mem_of_getElem? (i := 55) rfl))) (mvT hZ (hw _ (List.mem_of_getElem? (i := 56) rfl))) (notFace_of_selects (args := #[]) (mvT hZ (hw _ (List.mem_of_getElem? (i := 58) rfl)))) (mvT hZ (hw _ (List.mem_of_getElem? (i := 58) rfl))) (mvT hZ (hw _ (List.mem_of_getElem? (i := 57) rfl))) (by decide) (backOf (W := 0) (rm10n l Z a0 hw [] b31 T244.heap n0 z260) hZ (hw _ (List.mem_of_getElem? (i := 59) rfl)) (hw _ (List.mem_of_getElem? (i := 7) rfl)) (by decide) (by decide)) q280a q280c (g := (mkF m 391 #[.val (.long q1), .second, .val (.long q2), .second, .val (.int p3), .val (.int p4), .val (.int p5), .val (.int p6), .val (.int r1), .val (.int r3), .val (.int r5), .val (.int r7), .val (.int r9), .val (.int r11), .val (.int k1), .val (.int k2), .val (.int k3), .val (.int m0), .val (.int m1), .val (.int m2), .val (.int m3), .val (.int m4), .val (.int m5), .val (.int qf), .val (.int ql), .val (.ref b31), .val (.ref b99), .val (.int (0 : Int32)), .val (.int (0 : Int32)), .val (.int (0 : Int32)), .val (.int (1 : Int32)), .unset, .unset] [.null, (.ref b31)])) rfl (by rw [hml]; rfl) (Steps.refl _) (argsL := [.null]) (rest := []) (lenOf pd_1 rfl) rfl (by show 2 * 0 + _ ≤ _; exact Nat.le_of_eq rfl) (hb hby at_391) (fun _ _ => ⟨rfl, e278, (by decide : 20 + 0 ≤ _), (by decide : 58 + 0 ≤ _)⟩)
          dsimp only [Pt.U, Pt.locs, Pt.cells, Pt.slots] at X280 l280 y280 z280 st280 hQ280
          subst l280 y280 z280
          obtain ⟨rfl, N280q, e280⟩ := hQ280
          have N281 := Fr.app N279 N280q
          refine Go.via (S' := T280.setTop (mkF m 394 #[.val (.long q1), .second, .val (.long q2), .second, .val (.int p3), .val (.int p4), .val (.int p5), .val (.int p6), .val (.int r1), .val (.int r3), .val (.int r5), .val (.int r7), .val (.int r9), .val (.int r11), .val (.int k1), .val (.int k2), .val (.int k3), .val (.int m0), .val (.int m1), .val (.int m2), .val (.int m3), .val (.int m4), .val (.int m5), .val (.int qf), .val (.int ql), .val (.ref b31), .val (.ref b99), .val (.int (0 : Int32)), .val (.int (0 : Int32)), .val (.int (0 : Int32)), .val (.int (1 : Int32)), .unset, .unset] [(.int (0 : Int32))])) (fun _ k => st280.trans k) ?_
          refine Go.via (S' := T280.setTop (mkF m 396 #[.val (.long q1), .second, .val (.long q2), .second, .val (.int p3), .val (.int p4), .val (.int p5), .val (.int p6), .val (.int r1), .val (.int r3), .val (.int r5), .val (.int r7), .val (.int r9), .val (.int r11), .val (.int k1), .val (.int k2), .val (.int k3), .val (.int m0), .val (.int m1), .val (.int m2), .val (.int m3), .val (.int m4), .val (.int m5), .val (.int qf), .val (.int ql), .val (.ref b31), .val (.ref b99), .val (.int (0 : Int32)), .val (.int (0 : Int32)), .val (.int (0 : Int32)), .val (.int (1 : Int32)), .val (.int (0 : Int32)), .unset] [])) (fun _ k => XS.istore X280.here hx rfl (hb hby at_394) rfl (l' := #[.val (.long q1), .second, .val (.long q2), .second, .val (.int p3), .val (.int p4), .val (.int p5), .val (.int p6), .val (.int r1), .val (.int r3), .val (.int r5), .val (.int r7), .val (.int r9), .val (.int r11), .val (.int k1), .val (.int k2), .val (.int k3), .val (.int m0), .val (.int m1), .val (.int m2), .val (.int m3), .val (.int m4), .val (.int m5), .val (.int qf), .val (.int ql), .val (.ref b31), .val (.ref b99), .val (.int (0 : Int32)), .val (.int (0 : Int32)), .val (.int (0 : Int32)), .val (.int (1 : Int32)), .val (.int (0 : Int32)), .unset]) rfl k) ?_
          refine Go.via (S' := T280.setTop (mkF m 398 #[.val (.long q1), .second, .val (.long q2), .second, .val (.int p3), .val (.int p4), .val (.int p5), .val (.int p6), .val (.int r1), .val (.int r3), .val (.int r5), .val (.int r7), .val (.int r9), .val (.int r11), .val (.int k1), .val (.int k2), .val (.int k3), .val (.int m0), .val (.int m1), .val (.int m2), .val (.int m3), .val (.int m4), .val (.int m5), .val (.int qf), .val (.int ql), .val (.ref b31), .val (.ref b99), .val (.int (0 : Int32)), .val (.int (0 : Int32)), .val (.int (0 : Int32)), .val (.int (1 : Int32)), .val (.int (0 : Int32)), .unset] [(.ref b31)])) (fun _ k => XS.aload X280.here hx rfl (hb hby at_396) rfl rfl k) ?_
          refine Go.via (S' := T280.setTop (mkF m 400 #[.val (.long q1), .second, .val (.long q2), .second, .val (.int p3), .val (.int p4), .val (.int p5), .val (.int p6), .val (.int r1), .val (.int r3), .val (.int r5), .val (.int r7), .val (.int r9), .val (.int r11), .val (.int k1), .val (.int k2), .val (.int k3), .val (.int m0), .val (.int m1), .val (.int m2), .val (.int m3), .val (.int m4), .val (.int m5), .val (.int qf), .val (.int ql), .val (.ref b31), .val (.ref b99), .val (.int (0 : Int32)), .val (.int (0 : Int32)), .val (.int (0 : Int32)), .val (.int (1 : Int32)), .val (.int (0 : Int32)), .unset] [(.ref b31), (.ref b31)])) (fun _ k => XS.aload X280.here hx rfl (hb hby at_398) rfl rfl k) ?_
          obtain ⟨cq282, kq282, q282a, q282b, q282c⟩ := isOf hZ e280 f247
          obtain ⟨_, _, ⟨T282, L282, k282, n282⟩, -, X282, ⟨Lc282, hQ282, l282, y282, z282⟩, st282⟩ := X280.virtualBack hx (y := (⟨"com/example/amendatory/amendatory/Provision", "number", "()Ljava/lang/String;"⟩ : MethodName)) (z := (⟨"com/example/amendatory/amendatory/Provision", "number", "()Ljava/lang/String;"⟩ : MethodName)) hown (mvT hZ (hw _ (List.mem_of_getElem? (i := 72) rfl))) (mvT hZ (hw _ (List.mem_of_getElem? (i := 73) rfl))) (notFace_of_selects (args := #[]) (mvT hZ (hw _ (List.mem_of_getElem? (i := 75) rfl)))) (mvT hZ (hw _ (List.mem_of_getElem? (i := 75) rfl))) (mvT hZ (hw _ (List.mem_of_getElem? (i := 74) rfl))) (by decide) (backOf (W := 1) (rm13 l Z a0 hw [] b31 r40 T244.heap n0 z260 f251) hZ (hw _ (List.mem_of_getElem? (i := 76) rfl)) (hw _ (List.mem_of_getElem? (i := 7) rfl)) (by decide) (by decide)) q282a q282c (g := (mkF m 400 #[.val (.long q1), .second, .val (.long q2), .second, .val (.int p3), .val (.int p4), .val (.int p5), .val (.int p6), .val (.int r1), .val (.int r3), .val (.int r5), .val (.int r7), .val (.int r9), .val (.int r11), .val (.int k1), .val (.int k2), .val (.int k3), .val (.int m0), .val (.int m1), .val (.int m2), .val (.int m3), .val (.int m4), .val (.int m5), .val (.int qf), .val (.int ql), .val (.ref b31), .val (.ref b99), .val (.int (0 : Int32)), .val (.int (0 : Int32)), .val (.int (0 : Int32)), .val (.int (1 : Int32)), .val (.int (0 : Int32)), .unset] [(.ref b31), (.ref b31)])) rfl (by rw [hml]; rfl) (Steps.refl _) (argsL := []) (rest := [(.ref b31)]) (lenOf pd_5 rfl) rfl (by show 2 * 0 + _ ≤ _; exact Nat.le_of_eq rfl) (hb hby at_400) (fun _ _ => ⟨rfl, e280, (by decide : 20 + 0 ≤ _), (by decide : 58 + 0 ≤ _)⟩)
          dsimp only [Pt.U, Pt.locs, Pt.cells, Pt.slots] at X282 l282 y282 z282 st282 hQ282
          subst l282 y282 z282
          obtain ⟨rfl, N282q, e282⟩ := hQ282
          have N283 := Fr.app N281 N282q
          refine Go.via (S' := T282.setTop (mkF m 403 #[.val (.long q1), .second, .val (.long q2), .second, .val (.int p3), .val (.int p4), .val (.int p5), .val (.int p6), .val (.int r1), .val (.int r3), .val (.int r5), .val (.int r7), .val (.int r9), .val (.int r11), .val (.int k1), .val (.int k2), .val (.int k3), .val (.int m0), .val (.int m1), .val (.int m2), .val (.int m3), .val (.int m4), .val (.int m5), .val (.int qf), .val (.int ql), .val (.ref b31), .val (.ref b99), .val (.int (0 : Int32)), .val (.int (0 : Int32)), .val (.int (0 : Int32)), .val (.int (1 : Int32)), .val (.int (0 : Int32)), .unset] [(.ref r40), (.ref b31)])) (fun _ k => st282.trans k) ?_
          obtain ⟨_, _, _, _, es284, -⟩ := id f248
          obtain ⟨cq285, kq285, q285a, q285b, q285c⟩ := isOf hZ e282 f247
          obtain ⟨_, _, ⟨T285, L285, k285, n285⟩, -, X285, ⟨Lc285, hQ285, l285, y285, z285⟩, st285⟩ := X282.virtualBack hx (y := (⟨"com/example/amendatory/amendatory/Provision", "equals", "(Ljava/lang/Object;)Z"⟩ : MethodName)) (z := (⟨"com/example/amendatory/amendatory/Provision", "equals", "(Ljava/lang/Object;)Z"⟩ : MethodName)) hown (mvT hZ (hw _ (List.mem_of_getElem? (i := 55) rfl))) (mvT hZ (hw _ (List.mem_of_getElem? (i := 56) rfl))) (notFace_of_selects (args := #[]) (mvT hZ (hw _ (List.mem_of_getElem? (i := 58) rfl)))) (mvT hZ (hw _ (List.mem_of_getElem? (i := 58) rfl))) (mvT hZ (hw _ (List.mem_of_getElem? (i := 57) rfl))) (by decide) (backOf (W := 0) (rm10s l Z a0 hw [] b31 r40 T244.heap n0 z260 es284) hZ (hw _ (List.mem_of_getElem? (i := 59) rfl)) (hw _ (List.mem_of_getElem? (i := 7) rfl)) (by decide) (by decide)) q285a q285c (g := (mkF m 403 #[.val (.long q1), .second, .val (.long q2), .second, .val (.int p3), .val (.int p4), .val (.int p5), .val (.int p6), .val (.int r1), .val (.int r3), .val (.int r5), .val (.int r7), .val (.int r9), .val (.int r11), .val (.int k1), .val (.int k2), .val (.int k3), .val (.int m0), .val (.int m1), .val (.int m2), .val (.int m3), .val (.int m4), .val (.int m5), .val (.int qf), .val (.int ql), .val (.ref b31), .val (.ref b99), .val (.int (0 : Int32)), .val (.int (0 : Int32)), .val (.int (0 : Int32)), .val (.int (1 : Int32)), .val (.int (0 : Int32)), .unset] [(.ref r40), (.ref b31)])) rfl (by rw [hml]; rfl) (Steps.refl _) (argsL := [(.ref r40)]) (rest := []) (lenOf pd_1 rfl) rfl (by show 2 * 0 + _ ≤ _; exact Nat.le_of_eq rfl) (hb hby at_403) (fun _ _ => ⟨rfl, e282, (by decide : 20 + 0 ≤ _), (by decide : 58 + 0 ≤ _)⟩)
          dsimp only [Pt.U, Pt.locs, Pt.cells, Pt.slots] at X285 l285 y285 z285 st285 hQ285
          subst l285 y285 z285
          obtain ⟨rfl, N285q, e285⟩ := hQ285
          have N286 := Fr.app N283 N285q
          refine Go.via (S' := T285.setTop (mkF m 406 #[.val (.long q1), .second, .val (.long q2), .second, .val (.int p3), .val (.int p4), .val (.int p5), .val (.int p6), .val (.int r1), .val (.int r3), .val (.int r5), .val (.int r7), .val (.int r9), .val (.int r11), .val (.int k1), .val (.int k2), .val (.int k3), .val (.int m0), .val (.int m1), .val (.int m2), .val (.int m3), .val (.int m4), .val (.int m5), .val (.int qf), .val (.int ql), .val (.ref b31), .val (.ref b99), .val (.int (0 : Int32)), .val (.int (0 : Int32)), .val (.int (0 : Int32)), .val (.int (1 : Int32)), .val (.int (0 : Int32)), .unset] [(.int (0 : Int32))])) (fun _ k => st285.trans k) ?_
          refine Go.via (S' := T285.setTop (mkF m 408 #[.val (.long q1), .second, .val (.long q2), .second, .val (.int p3), .val (.int p4), .val (.int p5), .val (.int p6), .val (.int r1), .val (.int r3), .val (.int r5), .val (.int r7), .val (.int r9), .val (.int r11), .val (.int k1), .val (.int k2), .val (.int k3), .val (.int m0), .val (.int m1), .val (.int m2), .val (.int m3), .val (.int m4), .val (.int m5), .val (.int qf), .val (.int ql), .val (.ref b31), .val (.ref b99), .val (.int (0 : Int32)), .val (.int (0 : Int32)), .val (.int (0 : Int32)), .val (.int (1 : Int32)), .val (.int (0 : Int32)), .val (.int (0 : Int32))] [])) (fun _ k => XS.istore X285.here hx rfl (hb hby at_406) rfl (l' := #[.val (.long q1), .second, .val (.long q2), .second, .val (.int p3), .val (.int p4), .val (.int p5), .val (.int p6), .val (.int r1), .val (.int r3), .val (.int r5), .val (.int r7), .val (.int r9), .val (.int r11), .val (.int k1), .val (.int k2), .val (.int k3), .val (.int m0), .val (.int m1), .val (.int m2), .val (.int m3), .val (.int m4), .val (.int m5), .val (.int qf), .val (.int ql), .val (.ref b31), .val (.ref b99), .val (.int (0 : Int32)), .val (.int (0 : Int32)), .val (.int (0 : Int32)), .val (.int (1 : Int32)), .val (.int (0 : Int32)), .val (.int (0 : Int32))]) rfl k) ?_
          refine Go.via (S' := T285.setTop (mkF m 410 #[.val (.long q1), .second, .val (.long q2), .second, .val (.int p3), .val (.int p4), .val (.int p5), .val (.int p6), .val (.int r1), .val (.int r3), .val (.int r5), .val (.int r7), .val (.int r9), .val (.int r11), .val (.int k1), .val (.int k2), .val (.int k3), .val (.int m0), .val (.int m1), .val (.int m2), .val (.int m3), .val (.int m4), .val (.int m5), .val (.int qf), .val (.int ql), .val (.ref b31), .val (.ref b99), .val (.int (0 : Int32)), .val (.int (0 : Int32)), .val (.int (0 : Int32)), .val (.int (1 : Int32)), .val (.int (0 : Int32)), .val (.int (0 : Int32))] [(.int (0 : Int32))])) (fun _ k => XS.iload X285.here hx rfl (hb hby at_408) rfl k) ?_
          refine Go.via (S' := T285.setTop (mkF m 412 #[.val (.long q1), .second, .val (.long q2), .second, .val (.int p3), .val (.int p4), .val (.int p5), .val (.int p6), .val (.int r1), .val (.int r3), .val (.int r5), .val (.int r7), .val (.int r9), .val (.int r11), .val (.int k1), .val (.int k2), .val (.int k3), .val (.int m0), .val (.int m1), .val (.int m2), .val (.int m3), .val (.int m4), .val (.int m5), .val (.int qf), .val (.int ql), .val (.ref b31), .val (.ref b99), .val (.int (0 : Int32)), .val (.int (0 : Int32)), .val (.int (0 : Int32)), .val (.int (1 : Int32)), .val (.int (0 : Int32)), .val (.int (0 : Int32))] [(.int (0 : Int32)), (.int (0 : Int32))])) (fun _ k => XS.iload X285.here hx rfl (hb hby at_410) rfl k) ?_
          refine Go.via (S' := T285.setTop (mkF m 415 #[.val (.long q1), .second, .val (.long q2), .second, .val (.int p3), .val (.int p4), .val (.int p5), .val (.int p6), .val (.int r1), .val (.int r3), .val (.int r5), .val (.int r7), .val (.int r9), .val (.int r11), .val (.int k1), .val (.int k2), .val (.int k3), .val (.int m0), .val (.int m1), .val (.int m2), .val (.int m3), .val (.int m4), .val (.int m5), .val (.int qf), .val (.int ql), .val (.ref b31), .val (.ref b99), .val (.int (0 : Int32)), .val (.int (0 : Int32)), .val (.int (0 : Int32)), .val (.int (1 : Int32)), .val (.int (0 : Int32)), .val (.int (0 : Int32))] [])) (fun _ k => XS.icmpNo X285.here hx rfl (hb hby at_412) rfl (teq (by decide)).2 k) ?_
          refine Go.via (S' := T285.setTop (mkF m 417 #[.val (.long q1), .second, .val (.long q2), .second, .val (.int p3), .val (.int p4), .val (.int p5), .val (.int p6), .val (.int r1), .val (.int r3), .val (.int r5), .val (.int r7), .val (.int r9), .val (.int r11), .val (.int k1), .val (.int k2), .val (.int k3), .val (.int m0), .val (.int m1), .val (.int m2), .val (.int m3), .val (.int m4), .val (.int m5), .val (.int qf), .val (.int ql), .val (.ref b31), .val (.ref b99), .val (.int (0 : Int32)), .val (.int (0 : Int32)), .val (.int (0 : Int32)), .val (.int (1 : Int32)), .val (.int (0 : Int32)), .val (.int (0 : Int32))] [(.int (0 : Int32))])) (fun _ k => XS.iload X285.here hx rfl (hb hby at_415) rfl k) ?_
          refine Go.via (S' := T285.setTop (mkF m 419 #[.val (.long q1), .second, .val (.long q2), .second, .val (.int p3), .val (.int p4), .val (.int p5), .val (.int p6), .val (.int r1), .val (.int r3), .val (.int r5), .val (.int r7), .val (.int r9), .val (.int r11), .val (.int k1), .val (.int k2), .val (.int k3), .val (.int m0), .val (.int m1), .val (.int m2), .val (.int m3), .val (.int m4), .val (.int m5), .val (.int qf), .val (.int ql), .val (.ref b31), .val (.ref b99), .val (.int (0 : Int32)), .val (.int (0 : Int32)), .val (.int (0 : Int32)), .val (.int (1 : Int32)), .val (.int (0 : Int32)), .val (.int (0 : Int32))] [(.int (0 : Int32)), (.int (0 : Int32))])) (fun _ k => XS.iload X285.here hx rfl (hb hby at_417) rfl k) ?_
          refine Go.via (S' := T285.setTop (mkF m 422 #[.val (.long q1), .second, .val (.long q2), .second, .val (.int p3), .val (.int p4), .val (.int p5), .val (.int p6), .val (.int r1), .val (.int r3), .val (.int r5), .val (.int r7), .val (.int r9), .val (.int r11), .val (.int k1), .val (.int k2), .val (.int k3), .val (.int m0), .val (.int m1), .val (.int m2), .val (.int m3), .val (.int m4), .val (.int m5), .val (.int qf), .val (.int ql), .val (.ref b31), .val (.ref b99), .val (.int (0 : Int32)), .val (.int (0 : Int32)), .val (.int (0 : Int32)), .val (.int (1 : Int32)), .val (.int (0 : Int32)), .val (.int (0 : Int32))] [])) (fun _ k => XS.icmpNo X285.here hx rfl (hb hby at_419) rfl (teq (by decide)).2 k) ?_
          refine Go.via (S' := T285.setTop (mkF m 424 #[.val (.long q1), .second, .val (.long q2), .second, .val (.int p3), .val (.int p4), .val (.int p5), .val (.int p6), .val (.int r1), .val (.int r3), .val (.int r5), .val (.int r7), .val (.int r9), .val (.int r11), .val (.int k1), .val (.int k2), .val (.int k3), .val (.int m0), .val (.int m1), .val (.int m2), .val (.int m3), .val (.int m4), .val (.int m5), .val (.int qf), .val (.int ql), .val (.ref b31), .val (.ref b99), .val (.int (0 : Int32)), .val (.int (0 : Int32)), .val (.int (0 : Int32)), .val (.int (1 : Int32)), .val (.int (0 : Int32)), .val (.int (0 : Int32))] [(.int (1 : Int32))])) (fun _ k => XS.iload X285.here hx rfl (hb hby at_422) rfl k) ?_
          refine Go.via (S' := T285.setTop (mkF m 427 #[.val (.long q1), .second, .val (.long q2), .second, .val (.int p3), .val (.int p4), .val (.int p5), .val (.int p6), .val (.int r1), .val (.int r3), .val (.int r5), .val (.int r7), .val (.int r9), .val (.int r11), .val (.int k1), .val (.int k2), .val (.int k3), .val (.int m0), .val (.int m1), .val (.int m2), .val (.int m3), .val (.int m4), .val (.int m5), .val (.int qf), .val (.int ql), .val (.ref b31), .val (.ref b99), .val (.int (0 : Int32)), .val (.int (0 : Int32)), .val (.int (0 : Int32)), .val (.int (1 : Int32)), .val (.int (0 : Int32)), .val (.int (0 : Int32))] [])) (fun _ k => XS.ifNo X285.here hx rfl (hb hby at_424) rfl ((if0 _ _).trans (feq (by decide)).1) k) ?_
          refine Go.via (S' := T285.setTop (mkF m 429 #[.val (.long q1), .second, .val (.long q2), .second, .val (.int p3), .val (.int p4), .val (.int p5), .val (.int p6), .val (.int r1), .val (.int r3), .val (.int r5), .val (.int r7), .val (.int r9), .val (.int r11), .val (.int k1), .val (.int k2), .val (.int k3), .val (.int m0), .val (.int m1), .val (.int m2), .val (.int m3), .val (.int m4), .val (.int m5), .val (.int qf), .val (.int ql), .val (.ref b31), .val (.ref b99), .val (.int (0 : Int32)), .val (.int (0 : Int32)), .val (.int (0 : Int32)), .val (.int (1 : Int32)), .val (.int (0 : Int32)), .val (.int (0 : Int32))] [(.int (0 : Int32))])) (fun _ k => XS.iload X285.here hx rfl (hb hby at_427) rfl k) ?_
          refine Go.via (S' := T285.setTop (mkF m 432 #[.val (.long q1), .second, .val (.long q2), .second, .val (.int p3), .val (.int p4), .val (.int p5), .val (.int p6), .val (.int r1), .val (.int r3), .val (.int r5), .val (.int r7), .val (.int r9), .val (.int r11), .val (.int k1), .val (.int k2), .val (.int k3), .val (.int m0), .val (.int m1), .val (.int m2), .val (.int m3), .val (.int m4), .val (.int m5), .val (.int qf), .val (.int ql), .val (.ref b31), .val (.ref b99), .val (.int (0 : Int32)), .val (.int (0 : Int32)), .val (.int (0 : Int32)), .val (.int (1 : Int32)), .val (.int (0 : Int32)), .val (.int (0 : Int32))] [])) (fun _ k => XS.ifNo X285.here hx rfl (hb hby at_429) rfl ((if0 _ _).trans (teq (by decide)).2) k) ?_
          refine Go.via (S' := T285.setTop (mkF m 434 #[.val (.long q1), .second, .val (.long q2), .second, .val (.int p3), .val (.int p4), .val (.int p5), .val (.int p6), .val (.int r1), .val (.int r3), .val (.int r5), .val (.int r7), .val (.int r9), .val (.int r11), .val (.int k1), .val (.int k2), .val (.int k3), .val (.int m0), .val (.int m1), .val (.int m2), .val (.int m3), .val (.int m4), .val (.int m5), .val (.int qf), .val (.int ql), .val (.ref b31), .val (.ref b99), .val (.int (0 : Int32)), .val (.int (0 : Int32)), .val (.int (0 : Int32)), .val (.int (1 : Int32)), .val (.int (0 : Int32)), .val (.int (0 : Int32))] [(.int (0 : Int32))])) (fun _ k => XS.iload X285.here hx rfl (hb hby at_432) rfl k) ?_
          refine Go.via (S' := T285.setTop (mkF m 437 #[.val (.long q1), .second, .val (.long q2), .second, .val (.int p3), .val (.int p4), .val (.int p5), .val (.int p6), .val (.int r1), .val (.int r3), .val (.int r5), .val (.int r7), .val (.int r9), .val (.int r11), .val (.int k1), .val (.int k2), .val (.int k3), .val (.int m0), .val (.int m1), .val (.int m2), .val (.int m3), .val (.int m4), .val (.int m5), .val (.int qf), .val (.int ql), .val (.ref b31), .val (.ref b99), .val (.int (0 : Int32)), .val (.int (0 : Int32)), .val (.int (0 : Int32)), .val (.int (1 : Int32)), .val (.int (0 : Int32)), .val (.int (0 : Int32))] [])) (fun _ k => XS.ifNo X285.here hx rfl (hb hby at_434) rfl ((if0 _ _).trans (teq (by decide)).2) k) ?_
          refine Go.via (S' := T285.setTop (mkF m 438 #[.val (.long q1), .second, .val (.long q2), .second, .val (.int p3), .val (.int p4), .val (.int p5), .val (.int p6), .val (.int r1), .val (.int r3), .val (.int r5), .val (.int r7), .val (.int r9), .val (.int r11), .val (.int k1), .val (.int k2), .val (.int k3), .val (.int m0), .val (.int m1), .val (.int m2), .val (.int m3), .val (.int m4), .val (.int m5), .val (.int qf), .val (.int ql), .val (.ref b31), .val (.ref b99), .val (.int (0 : Int32)), .val (.int (0 : Int32)), .val (.int (0 : Int32)), .val (.int (1 : Int32)), .val (.int (0 : Int32)), .val (.int (0 : Int32))] [(.int (1 : Int32))])) (fun _ k => XS.iconst X285.here hx rfl (hb hby at_437) k) ?_
          refine Go.via (S' := T285.setTop (mkF m 442 #[.val (.long q1), .second, .val (.long q2), .second, .val (.int p3), .val (.int p4), .val (.int p5), .val (.int p6), .val (.int r1), .val (.int r3), .val (.int r5), .val (.int r7), .val (.int r9), .val (.int r11), .val (.int k1), .val (.int k2), .val (.int k3), .val (.int m0), .val (.int m1), .val (.int m2), .val (.int m3), .val (.int m4), .val (.int m5), .val (.int qf), .val (.int ql), .val (.ref b31), .val (.ref b99), .val (.int (0 : Int32)), .val (.int (0 : Int32)), .val (.int (0 : Int32)), .val (.int (1 : Int32)), .val (.int (0 : Int32)), .val (.int (0 : Int32))] [(.int (1 : Int32))])) (fun _ k => XS.goto X285.here hx rfl (pc0 := 438) (pc' := 442) rfl (hb hby at_438) (by decide) (by decide) k) ?_
          exact Go.retB X285 hx (BodyLoose.notSynchronized Bd) Bd.returns (hb hby at_442) rfl (by rw [e285]; exact ⟨rfl, N286⟩) (by decide) (by decide)
        · exfalso
          first | exact hB278 ⟨rfl, rfl, rfl, rfl, rfl⟩ | (simp only [List.cons.injEq, and_true] at hB278; obtain ⟨e1, e2, e3, e4, e5, e6, e7, e8⟩ := hex; exact hB278 ⟨⟨e1, e2⟩, ⟨e3, e4⟩, ⟨e5, e6⟩, e7, e8⟩) | (simp only [List.cons.injEq, and_true] at hB278; obtain ⟨⟨e1, e2⟩, ⟨e3, e4⟩, ⟨e5, e6⟩, e7, e8⟩ := hB278; exact hex ⟨e1, e2, e3, e4, e5, e6, e7, e8⟩) | (simp only [List.cons.injEq, and_true] at hB278; obtain ⟨e1, e2, e3, e4, e5, e6, e7, e8⟩ := hex; exact hB278 ⟨⟨e1.symm, e2.symm⟩, ⟨e3.symm, e4.symm⟩, ⟨e5.symm, e6.symm⟩, e7.symm, e8.symm⟩) | (simp only [List.cons.injEq, and_true] at hB278; obtain ⟨⟨e1, e2⟩, ⟨e3, e4⟩, ⟨e5, e6⟩, e7, e8⟩ := hB278; exact hex ⟨e1.symm, e2.symm, e3.symm, e4.symm, e5.symm, e6.symm, e7.symm, e8.symm⟩)
set_option maxRecDepth 65536 in
set_option maxHeartbeats 40000000 in
theorem comes_1 {Post : Tables → Env → Array Value → State → Outcome → State → Prop} (hpost : ∀ tb e args s v u, (limb_1_1.after args s (.returned v) u = true ∧ limb_1_2.after args s (.returned v) u = true ∧ True) → FrameEnd s (.returned v) u (Jvm.fieldLocs frame_1_writes args s ++ Jvm.arrayLocs frame_1_arrays args s ++ Jvm.staticLocs frame_1_statics s) 48 192 → Post tb e args s (.returned v) u) :
    ArmFor flags0 classFile x code maxLocals ret World_1 tables_1 room_1 Calls_1 rest_1 Pre_1 Post := by
  intro l hfl _ _ p e ha hc hk s m args below hf hA hF happ hP
  obtain ⟨hcalls, hrest, hpre⟩ := hP
  obtain ⟨-, -, -, hnamed, -, -, -, hat⟩ := (Spec.applies_iff hf).mp happ
  obtain ⟨hg, hn⟩ := and_e (Cond.before_iff.mp (show (Jvm.Cond.and given_1 narrow_1).before args s = true from hpre))
  obtain ⟨gg0, hg0⟩ := and_e hg
  obtain ⟨gg1, hg1⟩ := and_e hg0
  obtain ⟨gg2, hg2⟩ := and_e hg1
  obtain ⟨gg3, hg3⟩ := and_e hg2
  obtain ⟨gg4, hg4⟩ := and_e hg3
  obtain ⟨gg5, hg5⟩ := and_e hg4
  obtain ⟨w0, w1, w2, w3, w4, w5, rfl⟩ : ∃ w0 w1 w2 w3 w4 w5 : Value, args = #[w0, w1, w2, w3, w4, w5] := by
    have hs : args.size = 6 := by simpa [Cond.value, given_1] using gg0
    obtain ⟨L⟩ := args
    match L, hs with
    | [w0, w1, w2, w3, w4, w5], _ => exact ⟨w0, w1, w2, w3, w4, w5, rfl⟩
  have hw := fun d (hd : d ∈ tables_1) => atoms_spec (ws := Jvm.Cond.code x code maxLocals ret :: tables_1) hat d (List.mem_cons_of_mem _ hd)
  have hfit : Fit s := fun {y c} hc i hi => by
    obtain ⟨ha, rfl⟩ := Array.getElem?_eq_some_iff.mp hc
    have q := List.all_eq_true.mp ((Array.all_eq_true_iff_forall_mem.mp hF) _ (Array.getElem_mem ha)) i (List.mem_range.mpr hi)
    simpa [Array.getElem?_eq_getElem hi] using q
  obtain ⟨hsets, hown0⟩ := atoms_of _ (rest_1_c_eq ▸ (show rest_1_c.before _ s = true from hrest))
  obtain ⟨i0, ei0⟩ := isL_v gg1
  obtain rfl : w0 = (.long i0) := Option.some.inj ei0
  obtain ⟨i1, ei1⟩ := isL_v gg2
  obtain rfl : w1 = (.long i1) := Option.some.inj ei1
  obtain ⟨i2, ei2⟩ := is_v gg3
  obtain rfl : w2 = (.int i2) := Option.some.inj ei2
  obtain ⟨i3, ei3⟩ := is_v gg4
  obtain rfl : w3 = (.int i3) := Option.some.inj ei3
  obtain ⟨i4, ei4⟩ := is_v gg5
  obtain rfl : w4 = (.int i4) := Option.some.inj ei4
  obtain ⟨i5, ei5⟩ := is_v hg5
  obtain rfl : w5 = (.int i5) := Option.some.inj ei5
  obtain ⟨G1, eG1⟩ := is_v (Cond.before_iff.mp (hsets _ (List.mem_of_getElem? (i := 1) rfl)))
  have O2 := Sta.start eG1 (Or.inl (hsets _ (List.mem_of_getElem? (i := 0) rfl)))
  have P5 : ¬ G1 = (0 : Int32) := gotF (Cond.eq_ints eG1 (Term.int_eval 0)) (not_v (Cond.before_iff.mp (hsets _ (List.mem_of_getElem? (i := 2) rfl))))
  obtain ⟨n, o, h1, h2, h3, _, L, rfl, ⟨rfl, N⟩, hq⟩ := rm0 l s _ hw tables_1 i0 i1 i2 i3 i4 i5 G1 s.heap s.heap.size (Nat.le_refl _) (Old.start s) O2 P5 p e ha hc hk s m _ below hf ((Spec.applies_iff_loose hf).mp happ).1 ⟨rfl, State.Warmed39.refl s, rfl⟩ trivial
  refine ⟨n, _, h1, h2, h3, hpost _ _ _ _ _ _ ⟨Cond.after_iff.mpr rfl, Cond.after_iff.mpr (eq_i res_at (Term.int_eval (1)) rfl), trivial⟩ ⟨hq.1, hq.2.1, (hq.2.2.sift fun y hy => Or.inr (N y hy)).mono (by decide) (by decide)⟩⟩
theorem main_1_1 : Claimed_1_1 := comes_1 fun _ _ _ _ _ _ h hF => ⟨h.1, hF⟩
theorem main_1_2 : Claimed_1_2 := comes_1 fun _ _ _ _ _ _ h hF => ⟨h.2.1, hF⟩
end Jvm.Pilot.@@N@@
namespace Jvm.Pilot.@@N@@
open Jvm Jvm.ClassFile Sem Op Lib Jvm.Free Jvm.Stand Jvm.Pilot.@@N@@.Jvm.D
/-! MADE BY PROGRAM (witnessworld.py) out of the Statement's table words and the real class files: 20 classes; the members and pool entries that the words name. The judged class is class 1, her method 3. -/
namespace start1
open Jvm.ClassFile
def u (s : String) : CpInfo := .utf8 (stringToUtf16 s)
/-- a pool by its gaps: so many unusable entries, then the entry; so many at the end -/
def gap : Nat → List CpInfo → List CpInfo
  | 0, r => r
  | n + 1, r => .unusable :: gap n r
def poolList (es : List (Nat × CpInfo)) (last : Nat) : List CpInfo := es.foldr (fun e r => gap e.1 (e.2 :: r)) (gap last [])
def pool (es : List (Nat × CpInfo)) (last : Nat) : Array CpInfo := ⟨poolList es last⟩
def fileOf (pool : Array CpInfo) (this : Nat) (attrs : Array Attribute := #[]) (ms : Array MethodInfo := #[]) (fl : Nat := 33) (sup : Nat := 0) (ifs : Array Nat := #[]) (fds : Array FieldInfo := #[]) : ClassFile where
  minorVersion := 0
  majorVersion := 65
  constantPool := pool
  accessFlags := fl
  thisClass := this
  superClass := sup
  interfaces := ifs
  fields := fds
  methods := ms
  attributes := attrs
def plain (name : String) (sup : Option ClassId) : Class where
  name := name
  kind := .ordinary
  loader := none
  accessFlags := 33
  super := sup
  interfaces := #[]
  cf := none
  fields := #[]
  methods := #[]
  instanceTypes := #[]
  staticTypes := #[]
  resolved := #[]
  callSites := []
  init := .initialized
  statics := none
  mirror := none

def pool0 : Array CpInfo := pool [(5, u "<init>"), (0, u "()V"), (1, .class_ 10), (1, u "java/lang/Object")] 113

def k0c0 : Code := { maxStack := 0, maxLocals := 1, code := object_method_1_code, exceptionTable := #[], attributes := #[] }
def k0m0 : Method := { name := "<init>", desc := "()V", sig := { parameters := [], returnType := none }, accessFlags := 1, code := some k0c0 }
/-- java/lang/Object -/
def k0 : Class := { plain "java/lang/Object" none with
  accessFlags := 33
  interfaces := #[]
  cf := some (fileOf pool0 8 #[] #[{ accessFlags := 1, nameIndex := 5, descriptorIndex := 6, attributes := #[] }] 33 0 #[] #[])
  fields := #[]
  methods := #[k0m0]
  instanceTypes := #[]
  staticTypes := #[]
  resolved := Array.replicate 124 none
  statics := none }

def pool1 : Array CpInfo := pool [(2, .class_ 4), (1, u "java/lang/Object"), (0, u "<init>"), (0, u "()V"), (0, .long 255), (1, .class_ 10), (0, u "java/lang/String"), (0, .methodref 9 12), (0, .nameAndType 5 13), (0, u "([C)V"), (0, .methodref 15 16), (0, .class_ 17), (0, .nameAndType 18 19), (0, u "com/example/amendatory/amendatory/ProvisionEqualsPinLaw"), (0, u "ch"), (0, u "(JI)C"), (0, .class_ 21), (0, u "com/example/amendatory/amendatory/Provision"), (0, .methodref 15 23), (0, .nameAndType 24 25), (0, u "two"), (0, u "(CC)Ljava/lang/String;"), (0, .methodref 20 27), (0, .nameAndType 5 28), (0, u "(Ljava/lang/String;Ljava/lang/String;Ljava/lang/String;II)V"), (0, .methodref 20 30), (0, .nameAndType 31 32), (0, u "equals"), (0, u "(Ljava/lang/Object;)Z"), (0, .methodref 20 34), (0, .nameAndType 35 36), (0, u "number"), (0, u "()Ljava/lang/String;"), (2, u "law"), (0, u "(JJIIII)Z")] 3

def k1m0 : Method := { name := "<init>", desc := "()V", sig := { parameters := [], returnType := none }, accessFlags := 2, code := none }
def k1c1 : Code := { maxStack := 4, maxLocals := 3, code := method_2_code, exceptionTable := #[], attributes := #[] }
def k1m1 : Method := { name := "ch", desc := "(JI)C", sig := { parameters := [.long, .int], returnType := some .char }, accessFlags := 10, code := some k1c1 }
def k1c2 : Code := { maxStack := 6, maxLocals := 2, code := method_3_code, exceptionTable := #[], attributes := #[] }
def k1m2 : Method := { name := "two", desc := "(CC)Ljava/lang/String;", sig := { parameters := [.char, .char], returnType := some (.object "java/lang/String") }, accessFlags := 10, code := some k1c2 }
def k1c3 : Code := { maxStack := 7, maxLocals := 33, code := code, exceptionTable := #[], attributes := #[] }
def k1m3 : Method := { name := "law", desc := "(JJIIII)Z", sig := { parameters := [.long, .long, .int, .int, .int, .int], returnType := some .boolean }, accessFlags := 9, code := some k1c3 }
/-- com/example/amendatory/amendatory/ProvisionEqualsPinLaw -/
def k1 : Class := { plain "com/example/amendatory/amendatory/ProvisionEqualsPinLaw" (some 0) with
  accessFlags := 49
  interfaces := #[]
  cf := some (fileOf pool1 15 #[] #[{ accessFlags := 2, nameIndex := 5, descriptorIndex := 6, attributes := #[] }, { accessFlags := 10, nameIndex := 18, descriptorIndex := 19, attributes := #[] }, { accessFlags := 10, nameIndex := 24, descriptorIndex := 25, attributes := #[] }, { accessFlags := 9, nameIndex := 39, descriptorIndex := 40, attributes := #[] }] 49 2 #[] #[])
  fields := #[]
  methods := #[k1m0, k1m1, k1m2, k1m3]
  instanceTypes := #[]
  staticTypes := #[]
  resolved := Array.replicate 44 none
  statics := none }

def pool2 : Array CpInfo := pool [(1, .methodref 2 3), (0, .class_ 4), (0, .nameAndType 5 6), (0, u "java/lang/Object"), (0, u "<init>"), (0, u "()V"), (0, .fieldref 8 9), (0, .class_ 10), (0, .nameAndType 11 12), (0, u "com/example/amendatory/amendatory/Provision"), (0, u "number"), (0, u "Ljava/lang/String;"), (0, .fieldref 8 14), (0, .nameAndType 15 12), (0, u "designation"), (0, .fieldref 8 17), (0, .nameAndType 18 12), (0, u "opening"), (0, .fieldref 8 20), (0, .nameAndType 21 22), (0, u "firstLine"), (0, u "I"), (0, .fieldref 8 24), (0, .nameAndType 25 22), (0, u "lastLine"), (1, .class_ 29), (1, u "java/lang/String"), (9, u "()Ljava/lang/String;"), (22, u "(Ljava/lang/String;Ljava/lang/String;Ljava/lang/String;II)V"), (0, .methodref 27 64), (0, .nameAndType 65 66), (0, u "equals"), (0, u "(Ljava/lang/Object;)Z")] 24

def k2c0 : Code := { maxStack := 2, maxLocals := 6, code := prog_67_method_1_code, exceptionTable := #[], attributes := #[] }
def k2m0 : Method := { name := "<init>", desc := "(Ljava/lang/String;Ljava/lang/String;Ljava/lang/String;II)V", sig := { parameters := [(.object "java/lang/String"), (.object "java/lang/String"), (.object "java/lang/String"), .int, .int], returnType := none }, accessFlags := 0, code := some k2c0 }
def k2c1 : Code := { maxStack := 1, maxLocals := 1, code := prog_67_method_2_code, exceptionTable := #[], attributes := #[] }
def k2m1 : Method := { name := "number", desc := "()Ljava/lang/String;", sig := { parameters := [], returnType := some (.object "java/lang/String") }, accessFlags := 0, code := some k2c1 }
def k2c2 : Code := { maxStack := 2, maxLocals := 3, code := prog_67_method_13_code, exceptionTable := #[], attributes := #[] }
def k2m2 : Method := { name := "equals", desc := "(Ljava/lang/Object;)Z", sig := { parameters := [(.object "java/lang/Object")], returnType := some .boolean }, accessFlags := 1, code := some k2c2 }
/-- com/example/amendatory/amendatory/Provision -/
def k2 : Class := { plain "com/example/amendatory/amendatory/Provision" (some 0) with
  accessFlags := 48
  interfaces := #[]
  cf := some (fileOf pool2 8 #[] #[{ accessFlags := 0, nameIndex := 5, descriptorIndex := 62, attributes := #[] }, { accessFlags := 0, nameIndex := 11, descriptorIndex := 39, attributes := #[] }, { accessFlags := 1, nameIndex := 65, descriptorIndex := 66, attributes := #[] }] 48 2 #[] #[{ accessFlags := 18, nameIndex := 11, descriptorIndex := 12, attributes := #[] }, { accessFlags := 18, nameIndex := 15, descriptorIndex := 12, attributes := #[] }, { accessFlags := 18, nameIndex := 18, descriptorIndex := 12, attributes := #[] }, { accessFlags := 18, nameIndex := 21, descriptorIndex := 22, attributes := #[] }, { accessFlags := 18, nameIndex := 25, descriptorIndex := 22, attributes := #[] }])
  fields := #[{ name := "number", type := (.object "java/lang/String"), accessFlags := 18, slot := 0, constantValue := 0 }, { name := "designation", type := (.object "java/lang/String"), accessFlags := 18, slot := 1, constantValue := 0 }, { name := "opening", type := (.object "java/lang/String"), accessFlags := 18, slot := 2, constantValue := 0 }, { name := "firstLine", type := .int, accessFlags := 18, slot := 3, constantValue := 0 }, { name := "lastLine", type := .int, accessFlags := 18, slot := 4, constantValue := 0 }]
  methods := #[k2m0, k2m1, k2m2]
  instanceTypes := #[(.object "java/lang/String"), (.object "java/lang/String"), (.object "java/lang/String"), .int, .int]
  staticTypes := #[]
  resolved := Array.replicate 91 none
  statics := none }

def pool3 : Array CpInfo := pool [(1, .class_ 2), (0, u "java/io/Serializable"), (0, .class_ 4), (0, u "java/lang/Object")] 2

/-- java/io/Serializable -/
def k3 : Class := { plain "java/io/Serializable" (some 0) with
  accessFlags := 1537
  interfaces := #[]
  cf := some (fileOf pool3 1 #[] #[] 1537 3 #[] #[])
  fields := #[]
  methods := #[]
  instanceTypes := #[]
  staticTypes := #[]
  resolved := Array.replicate 7 none
  statics := none }

def pool4 : Array CpInfo := pool [(1, .class_ 2), (0, u "java/lang/Comparable"), (0, .class_ 4), (0, u "java/lang/Object")] 7

/-- java/lang/Comparable -/
def k4 : Class := { plain "java/lang/Comparable" (some 0) with
  accessFlags := 1537
  interfaces := #[]
  cf := some (fileOf pool4 1 #[] #[] 1537 3 #[] #[])
  fields := #[]
  methods := #[]
  instanceTypes := #[]
  staticTypes := #[]
  resolved := Array.replicate 12 none
  statics := none }

def pool5 : Array CpInfo := pool [(2, .class_ 4), (1, u "java/lang/CharSequence"), (42, .class_ 48), (0, u "java/lang/CharSequence$1CodePointIterator"), (10, .class_ 60), (0, u "java/lang/CharSequence$1CharIterator"), (5, .class_ 67), (0, u "java/lang/Object")] 63

/-- java/lang/CharSequence -/
def k5 : Class := { plain "java/lang/CharSequence" (some 0) with
  accessFlags := 1537
  interfaces := #[]
  cf := some (fileOf pool5 2 #[.nestMembers #[47, 59]] #[] 1537 66 #[] #[])
  fields := #[]
  methods := #[]
  instanceTypes := #[]
  staticTypes := #[]
  resolved := Array.replicate 131 none
  statics := none }

def pool6 : Array CpInfo := pool [(1, .class_ 2), (0, u "java/lang/constant/Constable"), (0, .class_ 4), (0, u "java/lang/Object")] 6

/-- java/lang/constant/Constable -/
def k6 : Class := { plain "java/lang/constant/Constable" (some 0) with
  accessFlags := 1537
  interfaces := #[]
  cf := some (fileOf pool6 1 #[] #[] 1537 3 #[] #[])
  fields := #[]
  methods := #[]
  instanceTypes := #[]
  staticTypes := #[]
  resolved := Array.replicate 11 none
  statics := none }

def pool7 : Array CpInfo := pool [(1, .class_ 2), (0, u "java/lang/constant/ConstantDesc"), (0, .class_ 4), (0, u "java/lang/Object")] 32

/-- java/lang/constant/ConstantDesc -/
def k7 : Class := { plain "java/lang/constant/ConstantDesc" (some 0) with
  accessFlags := 1537
  interfaces := #[]
  cf := some (fileOf pool7 1 #[] #[] 1537 3 #[] #[])
  fields := #[]
  methods := #[]
  instanceTypes := #[]
  staticTypes := #[]
  resolved := Array.replicate 37 none
  statics := none }

def pool8 : Array CpInfo := pool [(1, .methodref 2 3), (0, .class_ 4), (0, .nameAndType 5 6), (0, u "java/lang/Object"), (0, u "<init>"), (0, u "()V"), (2, .fieldref 10 11), (0, .class_ 12), (0, .nameAndType 13 14), (0, u "java/lang/String"), (0, u "value"), (0, u "[B"), (0, .fieldref 10 16), (0, .nameAndType 17 18), (0, u "coder"), (0, u "B"), (2, u "hash"), (0, u "I"), (2, u "hashIsZero"), (0, u "Z"), (0, .methodref 10 28), (0, .nameAndType 5 29), (0, u "([CIILjava/lang/Void;)V"), (8, .fieldref 10 39), (0, .nameAndType 40 26), (0, u "COMPACT_STRINGS"), (1, .class_ 44), (1, u "java/lang/StringUTF16"), (0, u "compress"), (1, .methodref 42 48), (0, .nameAndType 49 50), (0, u "coderFromArrayLen"), (0, u "([BI)B"), (56, .class_ 109), (1, u "java/lang/StringLatin1"), (67, .methodref 42 178), (0, .nameAndType 45 179), (0, u "([CII)[B"), (361, .methodref 107 542), (0, .nameAndType 543 544), (0, u "equals"), (0, u "([B[B)Z"), (28, u "(Ljava/lang/Object;)Z"), (1, .class_ 576), (0, u "java/lang/CharSequence"), (22, u "CASE_INSENSITIVE_ORDER"), (0, u "Ljava/util/Comparator;"), (409, u "([C)V"), (90, u "serialPersistentFields"), (0, u "[Ljava/io/ObjectStreamField;"), (0, .class_ 1104), (0, u "java/lang/String$CaseInsensitiveComparator"), (1, .class_ 1107), (0, u "java/io/Serializable"), (0, .class_ 1109), (0, u "java/lang/Comparable"), (0, .class_ 1111), (0, u "java/lang/constant/Constable"), (0, .class_ 1113), (0, u "java/lang/constant/ConstantDesc"), (2, u "serialVersionUID"), (0, u "J"), (3, u "REPL"), (0, u "C"), (2, u "LATIN1"), (1, u "UTF16")] 323

def k8m0 : Method := { name := "<init>", desc := "()V", sig := { parameters := [], returnType := none }, accessFlags := 1, code := none }
def k8c1 : Code := { maxStack := 5, maxLocals := 2, code := jdk_42_method_3_code, exceptionTable := #[], attributes := #[] }
def k8m1 : Method := { name := "<init>", desc := "([C)V", sig := { parameters := [(.array .char)], returnType := none }, accessFlags := 1, code := some k8c1 }
def k8c2 : Code := { maxStack := 2, maxLocals := 3, code := jdk_42_method_66_code, exceptionTable := #[], attributes := #[] }
def k8m2 : Method := { name := "equals", desc := "(Ljava/lang/Object;)Z", sig := { parameters := [(.object "java/lang/Object")], returnType := some .boolean }, accessFlags := 1, code := some k8c2 }
def k8c3 : Code := { maxStack := 4, maxLocals := 6, code := jdk_42_method_149_code, exceptionTable := #[], attributes := #[] }
def k8m3 : Method := { name := "<init>", desc := "([CIILjava/lang/Void;)V", sig := { parameters := [(.array .char), .int, .int, (.object "java/lang/Void")], returnType := none }, accessFlags := 2, code := some k8c3 }
/-- java/lang/String -/
def k8 : Class := { plain "java/lang/String" (some 0) with
  accessFlags := 49
  interfaces := #[3, 4, 5, 6, 7]
  cf := some (fileOf pool8 10 #[.nestMembers #[1103]] #[{ accessFlags := 1, nameIndex := 5, descriptorIndex := 6, attributes := #[] }, { accessFlags := 1, nameIndex := 5, descriptorIndex := 1010, attributes := #[] }, { accessFlags := 1, nameIndex := 543, descriptorIndex := 573, attributes := #[] }, { accessFlags := 2, nameIndex := 5, descriptorIndex := 29, attributes := #[] }] 49 2 #[1106, 1108, 575, 1110, 1112] #[{ accessFlags := 18, nameIndex := 13, descriptorIndex := 14, attributes := #[] }, { accessFlags := 18, nameIndex := 17, descriptorIndex := 18, attributes := #[] }, { accessFlags := 2, nameIndex := 21, descriptorIndex := 22, attributes := #[] }, { accessFlags := 2, nameIndex := 25, descriptorIndex := 26, attributes := #[] }, { accessFlags := 26, nameIndex := 1116, descriptorIndex := 1117, attributes := #[] }, { accessFlags := 24, nameIndex := 40, descriptorIndex := 26, attributes := #[] }, { accessFlags := 26, nameIndex := 1101, descriptorIndex := 1102, attributes := #[] }, { accessFlags := 26, nameIndex := 1121, descriptorIndex := 1122, attributes := #[] }, { accessFlags := 25, nameIndex := 599, descriptorIndex := 600, attributes := #[] }, { accessFlags := 24, nameIndex := 1125, descriptorIndex := 18, attributes := #[] }, { accessFlags := 24, nameIndex := 1127, descriptorIndex := 18, attributes := #[] }])
  fields := #[{ name := "value", type := (.array .byte), accessFlags := 18, slot := 0, constantValue := 0 }, { name := "coder", type := .byte, accessFlags := 18, slot := 1, constantValue := 0 }, { name := "hash", type := .int, accessFlags := 2, slot := 2, constantValue := 0 }, { name := "hashIsZero", type := .boolean, accessFlags := 2, slot := 3, constantValue := 0 }, { name := "serialVersionUID", type := .long, accessFlags := 26, slot := 0, constantValue := 0 }, { name := "COMPACT_STRINGS", type := .boolean, accessFlags := 24, slot := 1, constantValue := 0 }, { name := "serialPersistentFields", type := (.array (.object "java/io/ObjectStreamField")), accessFlags := 26, slot := 2, constantValue := 0 }, { name := "REPL", type := .char, accessFlags := 26, slot := 3, constantValue := 0 }, { name := "CASE_INSENSITIVE_ORDER", type := (.object "java/util/Comparator"), accessFlags := 25, slot := 4, constantValue := 0 }, { name := "LATIN1", type := .byte, accessFlags := 24, slot := 5, constantValue := 0 }, { name := "UTF16", type := .byte, accessFlags := 24, slot := 6, constantValue := 0 }]
  methods := #[k8m0, k8m1, k8m2, k8m3]
  instanceTypes := #[(.array .byte), .byte, .int, .boolean]
  staticTypes := #[.long, .boolean, (.array (.object "java/io/ObjectStreamField")), .char, (.object "java/util/Comparator"), .byte, .byte]
  resolved := Array.replicate 1451 none
  statics := some 0 }

def pool9 : Array CpInfo := pool [(6, .class_ 8), (1, u "java/lang/Object"), (0, u "<init>"), (0, u "()V"), (1, .class_ 14), (1, u "java/lang/StringUTF16"), (31, u "$assertionsDisabled"), (0, u "Z"), (13, u "HI_BYTE_SHIFT"), (0, u "I"), (2, u "LO_BYTE_SHIFT"), (49, .methodref 12 116), (0, .nameAndType 117 118), (0, u "compress"), (0, u "([CI[BII)I"), (3, u "([CII)[B"), (138, u "coderFromArrayLen"), (0, u "([BI)B"), (106, .class_ 371), (1, u "java/lang/StringUTF16$LinesSpliterator"), (58, u "MAX_LENGTH"), (196, .class_ 628), (0, u "java/lang/StringUTF16$CodePointsSpliterator"), (0, .class_ 630), (0, u "java/lang/StringUTF16$CharsSpliterator")] 4

def k9m0 : Method := { name := "<init>", desc := "()V", sig := { parameters := [], returnType := none }, accessFlags := 0, code := none }
def k9c1 : Code := { maxStack := 2, maxLocals := 2, code := jdk_52_method_15_code, exceptionTable := #[], attributes := #[] }
def k9m1 : Method := { name := "coderFromArrayLen", desc := "([BI)B", sig := { parameters := [(.array .byte), .int], returnType := some .byte }, accessFlags := 8, code := some k9c1 }
def k9c2 : Code := { maxStack := 5, maxLocals := 6, code := jdk_52_method_16_code, exceptionTable := #[], attributes := #[] }
def k9m2 : Method := { name := "compress", desc := "([CII)[B", sig := { parameters := [(.array .char), .int, .int], returnType := some (.array .byte) }, accessFlags := 9, code := some k9c2 }
def k9c3 : Code := { maxStack := 3, maxLocals := 7, code := jdk_52_method_21_code, exceptionTable := #[], attributes := #[] }
def k9m3 : Method := { name := "compress", desc := "([CI[BII)I", sig := { parameters := [(.array .char), .int, (.array .byte), .int, .int], returnType := some .int }, accessFlags := 9, code := some k9c3 }
/-- java/lang/StringUTF16 -/
def k9 : Class := { plain "java/lang/StringUTF16" (some 0) with
  accessFlags := 48
  interfaces := #[]
  cf := some (fileOf pool9 12 #[.nestMembers #[627, 629, 369]] #[{ accessFlags := 0, nameIndex := 9, descriptorIndex := 10, attributes := #[] }, { accessFlags := 8, nameIndex := 261, descriptorIndex := 262, attributes := #[] }, { accessFlags := 9, nameIndex := 117, descriptorIndex := 122, attributes := #[] }, { accessFlags := 9, nameIndex := 117, descriptorIndex := 118, attributes := #[] }] 48 6 #[] #[{ accessFlags := 26, nameIndex := 61, descriptorIndex := 62, attributes := #[] }, { accessFlags := 26, nameIndex := 65, descriptorIndex := 62, attributes := #[] }, { accessFlags := 24, nameIndex := 430, descriptorIndex := 62, attributes := #[] }, { accessFlags := 4120, nameIndex := 46, descriptorIndex := 47, attributes := #[] }])
  fields := #[{ name := "HI_BYTE_SHIFT", type := .int, accessFlags := 26, slot := 0, constantValue := 0 }, { name := "LO_BYTE_SHIFT", type := .int, accessFlags := 26, slot := 1, constantValue := 0 }, { name := "MAX_LENGTH", type := .int, accessFlags := 24, slot := 2, constantValue := 0 }, { name := "$assertionsDisabled", type := .boolean, accessFlags := 4120, slot := 3, constantValue := 0 }]
  methods := #[k9m0, k9m1, k9m2, k9m3]
  instanceTypes := #[]
  staticTypes := #[.int, .int, .int, .boolean]
  resolved := Array.replicate 635 none
  statics := none }

def pool10 : Array CpInfo := pool [(4, .class_ 6), (1, u "java/lang/Object"), (0, u "<init>"), (0, u "()V"), (5, .class_ 16), (1, u "java/lang/StringLatin1"), (104, u "$assertionsDisabled"), (0, u "Z"), (98, .class_ 223), (1, u "java/lang/StringLatin1$LinesSpliterator"), (57, u "equals"), (0, u "([B[B)Z"), (107, .class_ 391), (0, u "java/lang/StringLatin1$CharsSpliterator")] 3

def k10m0 : Method := { name := "<init>", desc := "()V", sig := { parameters := [], returnType := none }, accessFlags := 0, code := none }
def k10c1 : Code := { maxStack := 3, maxLocals := 3, code := jdk_43_method_13_code, exceptionTable := #[], attributes := #[] }
def k10m1 : Method := { name := "equals", desc := "([B[B)Z", sig := { parameters := [(.array .byte), (.array .byte)], returnType := some .boolean }, accessFlags := 9, code := some k10c1 }
/-- java/lang/StringLatin1 -/
def k10 : Class := { plain "java/lang/StringLatin1" (some 0) with
  accessFlags := 48
  interfaces := #[]
  cf := some (fileOf pool10 14 #[.nestMembers #[390, 221]] #[{ accessFlags := 0, nameIndex := 7, descriptorIndex := 8, attributes := #[] }, { accessFlags := 9, nameIndex := 281, descriptorIndex := 282, attributes := #[] }] 48 4 #[] #[{ accessFlags := 4120, nameIndex := 121, descriptorIndex := 122, attributes := #[] }])
  fields := #[{ name := "$assertionsDisabled", type := .boolean, accessFlags := 4120, slot := 0, constantValue := 0 }]
  methods := #[k10m0, k10m1]
  instanceTypes := #[]
  staticTypes := #[.boolean]
  resolved := Array.replicate 395 none
  statics := none }

def pool11 : Array CpInfo := pool [(2, .class_ 4), (1, u "java/lang/Object"), (0, u "<init>"), (0, u "()V"), (17, .class_ 26), (1, u "jdk/internal/util/Preconditions"), (28, .class_ 56), (0, u "jdk/internal/util/Preconditions$4"), (57, .class_ 115), (0, u "jdk/internal/util/Preconditions$1"), (7, u "SIOOBE_FORMATTER"), (0, u "Ljava/util/function/BiFunction;"), (0, .class_ 126), (0, u "jdk/internal/util/Preconditions$2"), (3, u "AIOOBE_FORMATTER"), (0, .class_ 132), (0, u "jdk/internal/util/Preconditions$3"), (3, u "IOOBE_FORMATTER")] 57

def k11m0 : Method := { name := "<init>", desc := "()V", sig := { parameters := [], returnType := none }, accessFlags := 1, code := none }
/-- jdk/internal/util/Preconditions -/
def k11 : Class := { plain "jdk/internal/util/Preconditions" (some 0) with
  accessFlags := 33
  interfaces := #[]
  cf := some (fileOf pool11 24 #[.nestMembers #[55, 131, 125, 114]] #[{ accessFlags := 1, nameIndex := 5, descriptorIndex := 6, attributes := #[] }] 33 2 #[] #[{ accessFlags := 25, nameIndex := 123, descriptorIndex := 124, attributes := #[] }, { accessFlags := 25, nameIndex := 130, descriptorIndex := 124, attributes := #[] }, { accessFlags := 25, nameIndex := 136, descriptorIndex := 124, attributes := #[] }])
  fields := #[{ name := "SIOOBE_FORMATTER", type := (.object "java/util/function/BiFunction"), accessFlags := 25, slot := 0, constantValue := 0 }, { name := "AIOOBE_FORMATTER", type := (.object "java/util/function/BiFunction"), accessFlags := 25, slot := 1, constantValue := 0 }, { name := "IOOBE_FORMATTER", type := (.object "java/util/function/BiFunction"), accessFlags := 25, slot := 2, constantValue := 0 }]
  methods := #[k11m0]
  instanceTypes := #[]
  staticTypes := #[(.object "java/util/function/BiFunction"), (.object "java/util/function/BiFunction"), (.object "java/util/function/BiFunction")]
  resolved := Array.replicate 194 none
  statics := some 1 }

def pool12 : Array CpInfo := pool [(9, u "<init>"), (6, .class_ 18), (1, u "java/lang/Object"), (0, u "()V"), (1, .class_ 23), (1, u "jdk/internal/util/ArraysSupport"), (0, u "LOG2_ARRAY_LONG_INDEX_SCALE"), (0, u "I"), (2, u "U"), (0, u "Ljdk/internal/misc/Unsafe;"), (8, u "BIG_ENDIAN"), (0, u "Z"), (8, u "LOG2_BYTE_BIT_SIZE"), (4, u "LOG2_ARRAY_INT_INDEX_SCALE"), (54, u "JLA"), (0, u "Ljdk/internal/access/JavaLangAccess;"), (11, u "LOG2_ARRAY_BOOLEAN_INDEX_SCALE"), (9, u "LOG2_ARRAY_BYTE_INDEX_SCALE"), (5, u "LOG2_ARRAY_CHAR_INDEX_SCALE"), (5, u "LOG2_ARRAY_SHORT_INDEX_SCALE"), (18, u "LOG2_ARRAY_FLOAT_INDEX_SCALE"), (24, u "LOG2_ARRAY_DOUBLE_INDEX_SCALE"), (89, u "T_BOOLEAN"), (2, u "T_CHAR"), (1, u "T_FLOAT"), (1, u "T_DOUBLE"), (1, u "T_BYTE"), (1, u "T_SHORT"), (1, u "T_INT"), (1, u "T_LONG"), (1, u "SOFT_MAX_ARRAY_LENGTH")] 83

def k12m0 : Method := { name := "<init>", desc := "()V", sig := { parameters := [], returnType := none }, accessFlags := 2, code := none }
/-- jdk/internal/util/ArraysSupport -/
def k12 : Class := { plain "jdk/internal/util/ArraysSupport" (some 0) with
  accessFlags := 33
  interfaces := #[]
  cf := some (fileOf pool12 21 #[] #[{ accessFlags := 2, nameIndex := 9, descriptorIndex := 19, attributes := #[] }] 33 16 #[] #[{ accessFlags := 24, nameIndex := 28, descriptorIndex := 29, attributes := #[] }, { accessFlags := 26, nameIndex := 38, descriptorIndex := 39, attributes := #[] }, { accessFlags := 25, nameIndex := 121, descriptorIndex := 25, attributes := #[] }, { accessFlags := 25, nameIndex := 131, descriptorIndex := 25, attributes := #[] }, { accessFlags := 25, nameIndex := 137, descriptorIndex := 25, attributes := #[] }, { accessFlags := 25, nameIndex := 143, descriptorIndex := 25, attributes := #[] }, { accessFlags := 25, nameIndex := 53, descriptorIndex := 25, attributes := #[] }, { accessFlags := 25, nameIndex := 24, descriptorIndex := 25, attributes := #[] }, { accessFlags := 25, nameIndex := 162, descriptorIndex := 25, attributes := #[] }, { accessFlags := 25, nameIndex := 187, descriptorIndex := 25, attributes := #[] }, { accessFlags := 26, nameIndex := 48, descriptorIndex := 25, attributes := #[] }, { accessFlags := 25, nameIndex := 277, descriptorIndex := 25, attributes := #[] }, { accessFlags := 25, nameIndex := 280, descriptorIndex := 25, attributes := #[] }, { accessFlags := 25, nameIndex := 282, descriptorIndex := 25, attributes := #[] }, { accessFlags := 25, nameIndex := 284, descriptorIndex := 25, attributes := #[] }, { accessFlags := 25, nameIndex := 286, descriptorIndex := 25, attributes := #[] }, { accessFlags := 25, nameIndex := 288, descriptorIndex := 25, attributes := #[] }, { accessFlags := 25, nameIndex := 290, descriptorIndex := 25, attributes := #[] }, { accessFlags := 25, nameIndex := 292, descriptorIndex := 25, attributes := #[] }, { accessFlags := 26, nameIndex := 108, descriptorIndex := 109, attributes := #[] }, { accessFlags := 25, nameIndex := 294, descriptorIndex := 25, attributes := #[] }])
  fields := #[{ name := "U", type := (.object "jdk/internal/misc/Unsafe"), accessFlags := 24, slot := 0, constantValue := 0 }, { name := "BIG_ENDIAN", type := .boolean, accessFlags := 26, slot := 1, constantValue := 0 }, { name := "LOG2_ARRAY_BOOLEAN_INDEX_SCALE", type := .int, accessFlags := 25, slot := 2, constantValue := 0 }, { name := "LOG2_ARRAY_BYTE_INDEX_SCALE", type := .int, accessFlags := 25, slot := 3, constantValue := 0 }, { name := "LOG2_ARRAY_CHAR_INDEX_SCALE", type := .int, accessFlags := 25, slot := 4, constantValue := 0 }, { name := "LOG2_ARRAY_SHORT_INDEX_SCALE", type := .int, accessFlags := 25, slot := 5, constantValue := 0 }, { name := "LOG2_ARRAY_INT_INDEX_SCALE", type := .int, accessFlags := 25, slot := 6, constantValue := 0 }, { name := "LOG2_ARRAY_LONG_INDEX_SCALE", type := .int, accessFlags := 25, slot := 7, constantValue := 0 }, { name := "LOG2_ARRAY_FLOAT_INDEX_SCALE", type := .int, accessFlags := 25, slot := 8, constantValue := 0 }, { name := "LOG2_ARRAY_DOUBLE_INDEX_SCALE", type := .int, accessFlags := 25, slot := 9, constantValue := 0 }, { name := "LOG2_BYTE_BIT_SIZE", type := .int, accessFlags := 26, slot := 10, constantValue := 0 }, { name := "T_BOOLEAN", type := .int, accessFlags := 25, slot := 11, constantValue := 0 }, { name := "T_CHAR", type := .int, accessFlags := 25, slot := 12, constantValue := 0 }, { name := "T_FLOAT", type := .int, accessFlags := 25, slot := 13, constantValue := 0 }, { name := "T_DOUBLE", type := .int, accessFlags := 25, slot := 14, constantValue := 0 }, { name := "T_BYTE", type := .int, accessFlags := 25, slot := 15, constantValue := 0 }, { name := "T_SHORT", type := .int, accessFlags := 25, slot := 16, constantValue := 0 }, { name := "T_INT", type := .int, accessFlags := 25, slot := 17, constantValue := 0 }, { name := "T_LONG", type := .int, accessFlags := 25, slot := 18, constantValue := 0 }, { name := "JLA", type := (.object "jdk/internal/access/JavaLangAccess"), accessFlags := 26, slot := 19, constantValue := 0 }, { name := "SOFT_MAX_ARRAY_LENGTH", type := .int, accessFlags := 25, slot := 20, constantValue := 0 }]
  methods := #[k12m0]
  instanceTypes := #[]
  staticTypes := #[(.object "jdk/internal/misc/Unsafe"), .boolean, .int, .int, .int, .int, .int, .int, .int, .int, .int, .int, .int, .int, .int, .int, .int, .int, .int, (.object "jdk/internal/access/JavaLangAccess"), .int]
  resolved := Array.replicate 378 none
  statics := none }

def pool13 : Array CpInfo := pool [(1, u "java/lang/Cloneable"), (0, .class_ 1), (0, u "java/lang/Object"), (0, .class_ 3)] 3

/-- java/lang/Cloneable -/
def k13 : Class := { plain "java/lang/Cloneable" (some 0) with
  accessFlags := 1537
  interfaces := #[]
  cf := some (fileOf pool13 2 #[] #[] 1537 4 #[] #[])
  fields := #[]
  methods := #[]
  instanceTypes := #[]
  staticTypes := #[]
  resolved := Array.replicate 8 none
  statics := none }

/-- the primitive byte -/
def k14 : Class := { plain "byte" none with kind := .primitive 'B', accessFlags := 0x411 }
/-- [B -/
def k15 : Class := { plain "[B" (some 0) with kind := .array 14 .byte, interfaces := #[13, 3], accessFlags := 1041 }

/-- the primitive char -/
def k16 : Class := { plain "char" none with kind := .primitive 'C', accessFlags := 0x411 }
/-- [C -/
def k17 : Class := { plain "[C" (some 0) with kind := .array 16 .char, interfaces := #[13, 3], accessFlags := 1041 }

/-- the primitive int -/
def k18 : Class := { plain "int" none with kind := .primitive 'I', accessFlags := 0x411 }
/-- [I -/
def k19 : Class := { plain "[I" (some 0) with kind := .array 18 .int, interfaces := #[13, 3], accessFlags := 1041 }

def heap : Heap := #[{ cls := 8, slots := #[.long 0, .int 1, .null, .int 0, .null, .int 0, .int 0], vm := .statics 8 },
  { cls := 11, slots := #[.null, .null, .null], vm := .statics 11 }]
def classes : Array Class := #[k0, k1, k2, k3, k4, k5, k6, k7, k8, k9, k10, k11, k12, k13, k14, k15, k16, k17, k18, k19]
def interned : List (Array UInt16 × Addr) := []
def slotsUsed : Nat := 10
def theMethod : MethodId := ⟨1, 3⟩
def args0 : Array Value := #[.long 5, .long 7, .int 31, .int 1, .int 2, .int 3]
def aboutOver (below : List Frame) : State where
  vm := { classes := classes, interned := interned.toArray }
  heap := heap
  slotsUsed := slotsUsed
  threads := #[{ frames := .invoking theMethod args0 :: below }]
def below0 : List Frame := [.native { method := ⟨0, 0⟩, args := #[] }]
def about1 : State := aboutOver below0
def p0 : Program := .bare "" "" ""
def e0 : Env := launch0.env 0 0 0
theorem w_frames : about1.frames = Frame.invoking theMethod args0 :: below0 := rfl
set_option maxRecDepth 65536 in
theorem w_args : argsFit about1.vm theMethod args0 = true := by decide +kernel
set_option maxRecDepth 65536 in
theorem w_heap : heapFits about1 = true := by decide +kernel
set_option maxRecDepth 65536 in
theorem w_runnable : about1.curStatus? = some .runnable := by decide +kernel
set_option maxRecDepth 65536 in
theorem w_alone : about1.alone = true := by decide +kernel
set_option maxRecDepth 65536 in
theorem w_named : about1.methodNamed? x = some theMethod := by decide +kernel
set_option maxRecDepth 65536 in
theorem w_hears : about1.hears theMethod below0 = true := by decide +kernel
set_option maxRecDepth 65536 in
theorem w_ripe : about1.ripe theMethod args0 below0 = true := by decide +kernel
theorem w_running : about1.status = .running := rfl
set_option maxRecDepth 65536 in
theorem w_room : about1.hasRoom e0.platform room_1 = true :=
  launch0.hasRoom_least _ room_1 (by decide +kernel) (by decide +kernel) (by decide +kernel) (by decide +kernel) (by decide +kernel) (by decide +kernel)
theorem allAtoms_all (ts : List Jvm.Cond) (a : Array Jvm.Value) (st : Jvm.State) : (allAtoms ts).before a st = ts.all (fun c => c.before a st) := by
  induction ts with
  | nil => rfl
  | cons c t ih =>
    show (Jvm.Cond.and c (allAtoms t)).before a st = _
    rw [Jvm.Cond.before_and, ih, List.all_cons]
def words1 : List Jvm.Cond := Jvm.Cond.code x code maxLocals ret :: tables_1
/-- a 'code' word, met by the world's own term for the bytes: nothing is compared byte by byte -/
theorem code_word {y : MethodName} {bytes : ByteArray} {mx : Nat} {rt : Option FieldType} {a : Array Value} {s : State} {m : MethodId} {meth : Method} {c : Code} (h1 : s.methodNamed? y = some m) (h2 : s.vm.method? m = some meth) (h3 : meth.code = some c) (h4 : c.code = bytes)
    (h5 : (c.maxLocals == mx && c.exceptionTable.isEmpty && decide (c.maxStack ≤ mostOperands) && decide (meth.sig.returnType = rt) && !meth.locks && decide (parseMethodDescriptor y.desc = some meth.sig)) = true) : (Jvm.Cond.code y bytes mx rt).before a s = true := by
  simp only [Bool.and_eq_true, beq_iff_eq, Bool.not_eq_true', decide_eq_true_eq] at h5
  obtain ⟨⟨⟨⟨⟨g1, g2⟩, g3⟩, g4⟩, g5⟩, g6⟩ := h5
  simp [Cond.before, Cond.holds, Cond.value, h1, h2, h3, h4, g1, g2, g3, g4, g5, g6]
def isCode : Jvm.Cond → Bool
  | .code _ _ _ _ => true
  | _ => false
theorem all_split {L : List Jvm.Cond} {P : Jvm.Cond → Bool} (h1 : L.all (fun c => isCode c || P c) = true) (h2 : ∀ c ∈ L.filter isCode, P c = true) : L.all P = true := by
  refine List.all_eq_true.mpr fun c hc => ?_
  have h := List.all_eq_true.mp h1 c hc
  rcases Bool.eq_false_or_eq_true (isCode c) with hi | hi
  · exact h2 c (List.mem_filter.mpr ⟨hc, hi⟩)
  · simpa [hi] using h
set_option maxRecDepth 65536 in
theorem w_c0 : (Jvm.Cond.code x code maxLocals ret).before args0 about1 = true := code_word (m := ⟨1, 3⟩) (meth := k1m3) (c := k1c3) (by decide +kernel) rfl rfl rfl (by decide +kernel)
set_option maxRecDepth 65536 in
theorem w_c1 : (Jvm.Cond.code ({ cls := "com/example/amendatory/amendatory/ProvisionEqualsPinLaw", name := "ch", desc := "(JI)C" } : Jvm.MethodName) method_2_code (3 : Nat) (Option.some Jvm.ClassFile.FieldType.char)).before args0 about1 = true := code_word (m := ⟨1, 1⟩) (meth := k1m1) (c := k1c1) (by decide +kernel) rfl rfl rfl (by decide +kernel)
set_option maxRecDepth 65536 in
theorem w_c2 : (Jvm.Cond.code ({ cls := "com/example/amendatory/amendatory/ProvisionEqualsPinLaw", name := "two", desc := "(CC)Ljava/lang/String;" } : Jvm.MethodName) method_3_code (2 : Nat) (Option.some (Jvm.ClassFile.FieldType.object "java/lang/String"))).before args0 about1 = true := code_word (m := ⟨1, 2⟩) (meth := k1m2) (c := k1c2) (by decide +kernel) rfl rfl rfl (by decide +kernel)
set_option maxRecDepth 65536 in
theorem w_c3 : (Jvm.Cond.code ({ cls := "java/lang/String", name := "<init>", desc := "([C)V" } : Jvm.MethodName) jdk_42_method_3_code (2 : Nat) (Option.none : Option Jvm.ClassFile.FieldType)).before args0 about1 = true := code_word (m := ⟨8, 1⟩) (meth := k8m1) (c := k8c1) (by decide +kernel) rfl rfl rfl (by decide +kernel)
set_option maxRecDepth 65536 in
theorem w_c4 : (Jvm.Cond.code ({ cls := "java/lang/String", name := "<init>", desc := "([CIILjava/lang/Void;)V" } : Jvm.MethodName) jdk_42_method_149_code (6 : Nat) (Option.none : Option Jvm.ClassFile.FieldType)).before args0 about1 = true := code_word (m := ⟨8, 3⟩) (meth := k8m3) (c := k8c3) (by decide +kernel) rfl rfl rfl (by decide +kernel)
set_option maxRecDepth 65536 in
theorem w_c5 : (Jvm.Cond.code ({ cls := "java/lang/Object", name := "<init>", desc := "()V" } : Jvm.MethodName) object_method_1_code (1 : Nat) (Option.none : Option Jvm.ClassFile.FieldType)).before args0 about1 = true := code_word (m := ⟨0, 0⟩) (meth := k0m0) (c := k0c0) (by decide +kernel) rfl rfl rfl (by decide +kernel)
set_option maxRecDepth 65536 in
theorem w_c6 : (Jvm.Cond.code ({ cls := "java/lang/StringUTF16", name := "compress", desc := "([CII)[B" } : Jvm.MethodName) jdk_52_method_16_code (6 : Nat) (Option.some (Jvm.ClassFile.FieldType.array Jvm.ClassFile.FieldType.byte))).before args0 about1 = true := code_word (m := ⟨9, 2⟩) (meth := k9m2) (c := k9c2) (by decide +kernel) rfl rfl rfl (by decide +kernel)
set_option maxRecDepth 65536 in
theorem w_c7 : (Jvm.Cond.code ({ cls := "java/lang/StringUTF16", name := "compress", desc := "([CI[BII)I" } : Jvm.MethodName) jdk_52_method_21_code (7 : Nat) (Option.some Jvm.ClassFile.FieldType.int)).before args0 about1 = true := code_word (m := ⟨9, 3⟩) (meth := k9m3) (c := k9c3) (by decide +kernel) rfl rfl rfl (by decide +kernel)
set_option maxRecDepth 65536 in
theorem w_c8 : (Jvm.Cond.code ({ cls := "java/lang/StringUTF16", name := "coderFromArrayLen", desc := "([BI)B" } : Jvm.MethodName) jdk_52_method_15_code (2 : Nat) (Option.some Jvm.ClassFile.FieldType.byte)).before args0 about1 = true := code_word (m := ⟨9, 1⟩) (meth := k9m1) (c := k9c1) (by decide +kernel) rfl rfl rfl (by decide +kernel)
set_option maxRecDepth 65536 in
theorem w_c9 : (Jvm.Cond.code ({ cls := "com/example/amendatory/amendatory/Provision", name := "<init>", desc := "(Ljava/lang/String;Ljava/lang/String;Ljava/lang/String;II)V" } : Jvm.MethodName) prog_67_method_1_code (6 : Nat) (Option.none : Option Jvm.ClassFile.FieldType)).before args0 about1 = true := code_word (m := ⟨2, 0⟩) (meth := k2m0) (c := k2c0) (by decide +kernel) rfl rfl rfl (by decide +kernel)
set_option maxRecDepth 65536 in
theorem w_c10 : (Jvm.Cond.code ({ cls := "com/example/amendatory/amendatory/Provision", name := "equals", desc := "(Ljava/lang/Object;)Z" } : Jvm.MethodName) prog_67_method_13_code (3 : Nat) (Option.some Jvm.ClassFile.FieldType.boolean)).before args0 about1 = true := code_word (m := ⟨2, 2⟩) (meth := k2m2) (c := k2c2) (by decide +kernel) rfl rfl rfl (by decide +kernel)
set_option maxRecDepth 65536 in
theorem w_c11 : (Jvm.Cond.code ({ cls := "java/lang/String", name := "equals", desc := "(Ljava/lang/Object;)Z" } : Jvm.MethodName) jdk_42_method_66_code (3 : Nat) (Option.some Jvm.ClassFile.FieldType.boolean)).before args0 about1 = true := code_word (m := ⟨8, 2⟩) (meth := k8m2) (c := k8c2) (by decide +kernel) rfl rfl rfl (by decide +kernel)
set_option maxRecDepth 65536 in
theorem w_c12 : (Jvm.Cond.code ({ cls := "java/lang/StringLatin1", name := "equals", desc := "([B[B)Z" } : Jvm.MethodName) jdk_43_method_13_code (3 : Nat) (Option.some Jvm.ClassFile.FieldType.boolean)).before args0 about1 = true := code_word (m := ⟨10, 1⟩) (meth := k10m1) (c := k10c1) (by decide +kernel) rfl rfl rfl (by decide +kernel)
set_option maxRecDepth 65536 in
theorem w_c13 : (Jvm.Cond.code ({ cls := "com/example/amendatory/amendatory/Provision", name := "number", desc := "()Ljava/lang/String;" } : Jvm.MethodName) prog_67_method_2_code (1 : Nat) (Option.some (Jvm.ClassFile.FieldType.object "java/lang/String"))).before args0 about1 = true := code_word (m := ⟨2, 1⟩) (meth := k2m1) (c := k2c1) (by decide +kernel) rfl rfl rfl (by decide +kernel)
def codes1 : List Jvm.Cond := [Jvm.Cond.code x code maxLocals ret, Jvm.Cond.code ({ cls := "com/example/amendatory/amendatory/ProvisionEqualsPinLaw", name := "ch", desc := "(JI)C" } : Jvm.MethodName) method_2_code (3 : Nat) (Option.some Jvm.ClassFile.FieldType.char), Jvm.Cond.code ({ cls := "com/example/amendatory/amendatory/ProvisionEqualsPinLaw", name := "two", desc := "(CC)Ljava/lang/String;" } : Jvm.MethodName) method_3_code (2 : Nat) (Option.some (Jvm.ClassFile.FieldType.object "java/lang/String")), Jvm.Cond.code ({ cls := "java/lang/String", name := "<init>", desc := "([C)V" } : Jvm.MethodName) jdk_42_method_3_code (2 : Nat) (Option.none : Option Jvm.ClassFile.FieldType), Jvm.Cond.code ({ cls := "java/lang/String", name := "<init>", desc := "([CIILjava/lang/Void;)V" } : Jvm.MethodName) jdk_42_method_149_code (6 : Nat) (Option.none : Option Jvm.ClassFile.FieldType), Jvm.Cond.code ({ cls := "java/lang/Object", name := "<init>", desc := "()V" } : Jvm.MethodName) object_method_1_code (1 : Nat) (Option.none : Option Jvm.ClassFile.FieldType), Jvm.Cond.code ({ cls := "java/lang/StringUTF16", name := "compress", desc := "([CII)[B" } : Jvm.MethodName) jdk_52_method_16_code (6 : Nat) (Option.some (Jvm.ClassFile.FieldType.array Jvm.ClassFile.FieldType.byte)), Jvm.Cond.code ({ cls := "java/lang/StringUTF16", name := "compress", desc := "([CI[BII)I" } : Jvm.MethodName) jdk_52_method_21_code (7 : Nat) (Option.some Jvm.ClassFile.FieldType.int), Jvm.Cond.code ({ cls := "java/lang/StringUTF16", name := "coderFromArrayLen", desc := "([BI)B" } : Jvm.MethodName) jdk_52_method_15_code (2 : Nat) (Option.some Jvm.ClassFile.FieldType.byte), Jvm.Cond.code ({ cls := "com/example/amendatory/amendatory/Provision", name := "<init>", desc := "(Ljava/lang/String;Ljava/lang/String;Ljava/lang/String;II)V" } : Jvm.MethodName) prog_67_method_1_code (6 : Nat) (Option.none : Option Jvm.ClassFile.FieldType), Jvm.Cond.code ({ cls := "com/example/amendatory/amendatory/Provision", name := "equals", desc := "(Ljava/lang/Object;)Z" } : Jvm.MethodName) prog_67_method_13_code (3 : Nat) (Option.some Jvm.ClassFile.FieldType.boolean), Jvm.Cond.code ({ cls := "java/lang/String", name := "equals", desc := "(Ljava/lang/Object;)Z" } : Jvm.MethodName) jdk_42_method_66_code (3 : Nat) (Option.some Jvm.ClassFile.FieldType.boolean), Jvm.Cond.code ({ cls := "java/lang/StringLatin1", name := "equals", desc := "([B[B)Z" } : Jvm.MethodName) jdk_43_method_13_code (3 : Nat) (Option.some Jvm.ClassFile.FieldType.boolean), Jvm.Cond.code ({ cls := "com/example/amendatory/amendatory/Provision", name := "number", desc := "()Ljava/lang/String;" } : Jvm.MethodName) prog_67_method_2_code (1 : Nat) (Option.some (Jvm.ClassFile.FieldType.object "java/lang/String"))]
set_option maxRecDepth 65536 in
theorem codes_eq : words1.filter isCode = codes1 := rfl
theorem w_codes : ∀ c ∈ words1.filter isCode, c.before args0 about1 = true := by
  rw [codes_eq]
  intro c hc
  simp only [codes1, List.mem_cons, List.not_mem_nil, or_false] at hc
  rcases hc with rfl | rfl | rfl | rfl | rfl | rfl | rfl | rfl | rfl | rfl | rfl | rfl | rfl | rfl
  · exact w_c0
  · exact w_c1
  · exact w_c2
  · exact w_c3
  · exact w_c4
  · exact w_c5
  · exact w_c6
  · exact w_c7
  · exact w_c8
  · exact w_c9
  · exact w_c10
  · exact w_c11
  · exact w_c12
  · exact w_c13
set_option maxRecDepth 65536 in
theorem w_t1 : (words1.take 24).all (fun c => isCode c || c.before args0 about1) = true := by decide +kernel
set_option maxRecDepth 65536 in
theorem w_t2 : ((words1.drop 24).take 24).all (fun c => isCode c || c.before args0 about1) = true := by decide +kernel
set_option maxRecDepth 65536 in
theorem w_t3 : (((words1.drop 24).drop 24).take 24).all (fun c => isCode c || c.before args0 about1) = true := by decide +kernel
set_option maxRecDepth 65536 in
theorem w_t4 : (((words1.drop 24).drop 24).drop 24).all (fun c => isCode c || c.before args0 about1) = true := by decide +kernel
theorem w_tables : (allAtoms (Jvm.Cond.code x code maxLocals ret :: tables_1)).before args0 about1 = true := by
  rw [allAtoms_all]
  show words1.all (fun c => c.before args0 about1) = true
  refine all_split ?_ w_codes
  rw [← List.take_append_drop 24 words1, List.all_append, w_t1, ← List.take_append_drop 24 (words1.drop 24), List.all_append, w_t2, ← List.take_append_drop 24 ((words1.drop 24).drop 24), List.all_append, w_t3, w_t4]
  rfl
set_option maxRecDepth 65536 in
theorem w_rest : rest_1_c.before args0 about1 = true := by decide +kernel
set_option maxRecDepth 65536 in
theorem w_case : (Jvm.Cond.and given_1 narrow_1).before args0 about1 = true := by decide +kernel
theorem w_applies : (headSpec (Jvm.Cond.code x code maxLocals ret :: tables_1) room_1).applies x e0.platform about1 = true :=
  (Spec.applies_iff w_frames).mpr ⟨w_running, w_runnable, w_alone, w_named, w_hears, w_ripe, w_room, w_tables⟩
theorem atStart : AtStart classFile x code maxLocals ret World_1 tables_1 room_1 Calls_1 rest_1 Pre_1 launch0 p0 e0 about1 theMethod args0 below0 :=
  ⟨lists_1, trivial, launch0.admits_env _ _ _, launch0.least_env, fairChoices_fair.cas, fairChoices_fair.clock, w_frames, w_args, w_heap, w_applies, trivial, w_rest, w_case⟩
end start1
theorem witness_1 : WitnessClaimed_1 := ⟨start1.p0, start1.e0, start1.about1, start1.theMethod, start1.args0, start1.below0, start1.atStart⟩
end Jvm.Pilot.@@N@@
