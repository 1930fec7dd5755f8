import JvmDerived
import JvmDerived.Pilot.@@N@@Statement
import JvmDerived.Pilot.@@N@@Code
set_option linter.unusedVariables false
set_option linter.unusedSimpArgs false
namespace Jvm.Pilot.@@N@@
open Jvm Jvm.ClassFile Sem Op Lib Jvm.Free Jvm.Stand Jvm.LawKit Jvm.RoadKit Bundle Jvm.Pilot.@@N@@.Jvm.D
def Go (p : Program) (e : Env) (below : List Frame) (s : State) (Q : Option Value → Heap → List Loc → Prop) (rc rs : Nat) (S : State) : Prop :=
  ∃ s₂ o, Steps p.tables e below S s₂ ∧ s₂.status = .running ∧ Ended s₂ below o ∧ ∃ v L, o = .returned v ∧ Q v s₂.heap L ∧ FrameEnd s o s₂ L rc rs
section OwnGo
variable {p : Program} {l : Launch} {e : Env} {R : Room} {s : State} {m : MethodId} {args : Array Value} {below : List Frame} {meth : Method} {c : Code} {T : State} {locs : List Loc} {cells slots : Nat} {Q : Option Value → Heap → List Loc → Prop} {rc rs : Nat}
theorem Go.via {S S' : State} (h : ∀ t, Steps p.tables e below S' t → Steps p.tables e below S t) (g : Go p e below s Q rc rs S') : Go p e below s Q rc rs S :=
  let ⟨s₂, o, a, b⟩ := g; ⟨s₂, o, h _ a, b⟩
theorem Go.retI (X : Stand p l e R s m args below meth c T locs cells slots) (hx : p.tables.exec = Jvm.exec) (hlk : meth.locks = false) {pc : Nat} {Ls : Array Slot} {z : Int32} {rest : List Value} (hret : meth.sig.returnType = some .int) (hd : decode c.code pc = .ok (.ireturn, 1))
    (hq : Q (some (.int z)) T.heap locs) (hc : cells ≤ rc) (hs : slots ≤ rs) : Go p e below s Q rc rs (T.setTop (mkF m pc Ls (.int z :: rest))) := by
  obtain ⟨fs, hr, hrun, hended, hW, hsame⟩ := X.leave (v := some (.int z)) (fun h => by rw [hret] at h; cases h)
  exact ⟨_, _, retOut X hx hret rfl (Or.inl ⟨rfl, Or.inl rfl, _, rfl⟩) hd hr, hrun, hended, _, _, rfl, hq, ⟨_, rfl⟩, hW, hsame.mono hc hs⟩
theorem Go.retB (X : Stand p l e R s m args below meth c T locs cells slots) (hx : p.tables.exec = Jvm.exec) (hlk : meth.locks = false) {pc : Nat} {Ls : Array Slot} {z : Int32} {rest : List Value} (hret : meth.sig.returnType = some .boolean) (hd : decode c.code pc = .ok (.ireturn, 1)) (hz : narrow .boolean (.int z) = .int z)
    (hq : Q (some (.int z)) T.heap locs) (hc : cells ≤ rc) (hs : slots ≤ rs) : Go p e below s Q rc rs (T.setTop (mkF m pc Ls (.int z :: rest))) := by
  obtain ⟨fs, hr, hrun, hended, hW, hsame⟩ := X.leave (v := some (.int z)) (fun h => by rw [hret] at h; cases h)
  exact ⟨_, _, retOut X hx hret hz (Or.inl ⟨rfl, Or.inr (Or.inl rfl), _, rfl⟩) hd hr, hrun, hended, _, _, rfl, hq, ⟨_, rfl⟩, hW, hsame.mono hc hs⟩
theorem Go.retC (X : Stand p l e R s m args below meth c T locs cells slots) (hx : p.tables.exec = Jvm.exec) (hlk : meth.locks = false) {pc : Nat} {Ls : Array Slot} {z : Int32} {rest : List Value} (hret : meth.sig.returnType = some .char) (hd : decode c.code pc = .ok (.ireturn, 1)) (hz : narrow .char (.int z) = .int z)
    (hq : Q (some (.int z)) T.heap locs) (hc : cells ≤ rc) (hs : slots ≤ rs) : Go p e below s Q rc rs (T.setTop (mkF m pc Ls (.int z :: rest))) := by
  obtain ⟨fs, hr, hrun, hended, hW, hsame⟩ := X.leave (v := some (.int z)) (fun h => by rw [hret] at h; cases h)
  exact ⟨_, _, retOut X hx hret hz (Or.inl ⟨rfl, Or.inr (Or.inr (Or.inr (Or.inl rfl))), _, rfl⟩) hd hr, hrun, hended, _, _, rfl, hq, ⟨_, rfl⟩, hW, hsame.mono hc hs⟩
theorem Go.retJ (X : Stand p l e R s m args below meth c T locs cells slots) (hx : p.tables.exec = Jvm.exec) (hlk : meth.locks = false) {pc : Nat} {Ls : Array Slot} {z : Int64} {rest : List Value} (hret : meth.sig.returnType = some .long) (hd : decode c.code pc = .ok (.lreturn, 1))
    (hq : Q (some (.long z)) T.heap locs) (hc : cells ≤ rc) (hs : slots ≤ rs) : Go p e below s Q rc rs (T.setTop (mkF m pc Ls (.long z :: rest))) := by
  obtain ⟨fs, hr, hrun, hended, hW, hsame⟩ := X.leave (v := some (.long z)) (fun h => by rw [hret] at h; cases h)
  exact ⟨_, _, retOut X hx hret rfl (Or.inr (Or.inl ⟨rfl, rfl, _, rfl⟩)) hd hr, hrun, hended, _, _, rfl, hq, ⟨_, rfl⟩, hW, hsame.mono hc hs⟩
theorem Go.retA (X : Stand p l e R s m args below meth c T locs cells slots) (hx : p.tables.exec = Jvm.exec) (hlk : meth.locks = false) {pc : Nat} {Ls : Array Slot} {z : Value} {rest : List Value} {t : FieldType} (hret : meth.sig.returnType = some t) (ht : t.isReference = true) (hz : z.isRef = true) (hn : narrow t z = z) (hd : decode c.code pc = .ok (.areturn, 1))
    (hq : Q (some z) T.heap locs) (hc : cells ≤ rc) (hs : slots ≤ rs) : Go p e below s Q rc rs (T.setTop (mkF m pc Ls (z :: rest))) := by
  obtain ⟨fs, hr, hrun, hended, hW, hsame⟩ := X.leave (v := some z) (fun h => by rw [hret] at h; cases h)
  exact ⟨_, _, retOut X hx hret hn (Or.inr (Or.inr (Or.inr (Or.inr ⟨rfl, ht, hz⟩)))) hd hr, hrun, hended, _, _, rfl, hq, ⟨_, rfl⟩, hW, hsame.mono hc hs⟩
theorem Go.retV (X : Stand p l e R s m args below meth c T locs cells slots) (hx : p.tables.exec = Jvm.exec) (hlk : meth.locks = false) {pc : Nat} {Ls : Array Slot} (hret : meth.sig.returnType = none) (hd : decode c.code pc = .ok (.return_, 1))
    (hq : Q none T.heap locs) (hc : cells ≤ rc) (hs : slots ≤ rs) : Go p e below s Q rc rs (T.setTop (mkF m pc Ls [])) := by
  obtain ⟨fs, hr, hrun, hended, hW, hsame⟩ := X.leave (v := none) (fun _ => rfl)
  exact ⟨_, _, X.returnOut hx hret hd hr, hrun, hended, _, _, rfl, hq, ⟨_, rfl⟩, hW, hsame.mono hc hs⟩
def GoW (p : Program) (e : Env) (below : List Frame) (s : State) (Q : Option Value → Heap → List Loc → Prop) (rc rs : Nat) (S : State) : Prop :=
  ∃ s₂ o, Steps p.tables e below S s₂ ∧ s₂.status = .running ∧ Ended s₂ below o ∧ ∃ v L, o = .returned v ∧ Q v s₂.heap L ∧ ReturnedEndW s o s₂ L rc rs
theorem GoW.via {S S' : State} (h : ∀ t, Steps p.tables e below S' t → Steps p.tables e below S t) (g : GoW p e below s Q rc rs S') : GoW p e below s Q rc rs S :=
  let ⟨s₂, o, a, b⟩ := g; ⟨s₂, o, h _ a, b⟩
theorem GoW.retB {vm₁ : Vm} (X : Stand p l e R (s.setVm vm₁) m args below meth c T locs cells slots) (hx : p.tables.exec = Jvm.exec) (hlk : meth.locks = false) {n : Nat} (hS : s.Since vm₁ n) (hn : n ≤ T.heap.size) {pc : Nat} {Ls : Array Slot} {z : Int32} {rest : List Value} (hret : meth.sig.returnType = some .boolean) (hd : decode c.code pc = .ok (.ireturn, 1)) (hz : narrow .boolean (.int z) = .int z)
    (hq : Q (some (.int z)) T.heap locs) (hc : cells ≤ rc) (hs : slots ≤ rs) : GoW p e below s Q rc rs (T.setTop (mkF m pc Ls (.int z :: rest))) := by
  obtain ⟨fs, hr, hrun, hended, hE⟩ := X.leaveW hS hn (v := some (.int z)) (fun h => by rw [hret] at h; cases h)
  exact ⟨_, _, retOut X hx hret hz (Or.inl ⟨rfl, Or.inr (Or.inl rfl), _, rfl⟩) hd hr, hrun, hended, _, _, rfl, hq, hE.1, hE.2.1, hE.2.2.1, hE.2.2.2.mono hc hs⟩
end OwnGo
theorem own_sel {s : State} {args : Array Value} {y : MethodName} {n : Nat} (wi : (Jvm.Cond.instantiable y.cls n).before args s = true) (hpriv : s.PrivateAt y) (hinst : (Jvm.Cond.instanceMethod y).before args s = true) (hy : y.cls ≠ "java/lang/invoke/MethodHandle" ∧ y.cls ≠ "java/lang/invoke/VarHandle") : (Jvm.Cond.selects y.cls y y).before args s = true := by
  obtain ⟨c, k, h1, h2, h3, h4, -⟩ := Cond.instantiable_spec wi
  have h5 : k.isInterface = false := by
    cases hq : k.isInterface
    · rfl
    · rw [hq] at h4; cases h4
  exact Jvm.Stand.selects_self_of_private h1 h2 h5 hpriv hinst hy
theorem own_lc1 {x y : Int64} (h : x < y) : lcmpW x y < 0 := (lw_lt x y).mpr h
theorem own_lc2 {x y : Int64} (h : ¬ x < y) : ¬ lcmpW x y < 0 := fun q => h ((lw_lt x y).mp q)
theorem own_lc3 {x y : Int64} (h : y < x) : 0 < lcmpW x y := (lw_gt x y).mpr h
theorem own_lc4 {x y : Int64} (h : ¬ y < x) : ¬ 0 < lcmpW x y := fun q => h ((lw_gt x y).mp q)
theorem own_lc5 {x y : Int64} (h : x = y) : lcmpW x y = 0 := (lw_eq x y).mpr h
theorem own_lc6 {x y : Int64} (h : ¬ x = y) : ¬ lcmpW x y = 0 := fun q => h ((lw_eq x y).mp q)
theorem own_n2i {i : Nat} (h : i < 2 ^ 31) : (Int32.ofNat i).toInt = i := Int32.toInt_ofNat_small h
theorem own_ncl {i : Nat} (h : i < 2 ^ 31) : (Int32.ofNat i).toNatClampNeg = i := by
  show (Int32.ofNat i).toInt.toNat = i
  rw [own_n2i h]; rfl
theorem own_nn {i : Nat} (h : i < 2 ^ 31) : ¬ Int32.ofNat i < 0 := by
  rw [Int32.lt_iff_toInt_lt, own_n2i h]
  show ¬ ((i : Int) < 0)
  omega
theorem own_lt {i n : Nat} (hi : i < 2 ^ 31) (hn : n < 2 ^ 31) : Int32.ofNat i < Int32.ofNat n ↔ i < n := by
  rw [Int32.lt_iff_toInt_lt, own_n2i hi, own_n2i hn]
  omega
theorem own_succ (i : Nat) : Int32.ofNat i + (1 : Int32) = Int32.ofNat (i + 1) := by
  rw [Int32.ofNat_add]; rfl
theorem own_add (i k : Nat) : Int32.ofNat i + Int32.ofNat k = Int32.ofNat (i + k) := (Int32.ofNat_add i k).symm
/-- an int array of n places; place j holds f j -/
def own_IA (Z : State) (h : Heap) (a : Addr) (n : Nat) (f : Nat → Int32) : Prop := ∃ c : Cell, Arr Z h a c .int ∧ c.slots.size = n ∧ ∀ j, j < n → c.slots[j]? = some (.int (f j))
section OwnIA
variable {Z : State} {h h' : Heap} {a b : Addr} {n : Nat} {f g : Nat → Int32} {sl : Nat} {v : Value} {ws : List Addr}
theorem own_IA.lt (F : own_IA Z h a n f) : a < h.size := by obtain ⟨c, A, -⟩ := F; exact A.lt
theorem own_IA.ext (F : own_IA Z h a n f) (E : Ext h h') : own_IA Z h' a n f := by obtain ⟨c, A, r⟩ := F; exact ⟨c, A.ext E, r⟩
theorem own_IA.other (F : own_IA Z h b n f) (W : Wr h h' a sl v) (q : b ≠ a) : own_IA Z h' b n f := by obtain ⟨c, A, r⟩ := F; exact ⟨c, A.other W q, r⟩
theorem own_IA.keep (F : own_IA Z h a n f) (K : Keep h h' ws) (q : a ∉ ws) : own_IA Z h' a n f := by obtain ⟨c, A, r⟩ := F; exact ⟨c, ⟨K.2.1 a c A.1 q, A.2⟩, r⟩
theorem own_IA.congr (F : own_IA Z h a n f) (q : ∀ j, j < n → f j = g j) : own_IA Z h a n g := by
  obtain ⟨c, A, S, H⟩ := F
  exact ⟨c, A, S, fun j hj => by rw [H j hj, q j hj]⟩
theorem own_IA.new {k : ClassId} {z : Int32} (A : Arr Z h a (newA k .int z) .int) : own_IA Z h a z.toNatClampNeg (fun _ => 0) :=
  ⟨_, A, sz_new _ _ _, fun j hj => by simp [newA, hj, defaultValue]⟩
theorem own_IA.set {c : Cell} {j : Nat} {x : Int32} (A : Arr Z h a c .int) (S : c.slots.size = n) (H : ∀ j, j < n → c.slots[j]? = some (.int (f j))) (W : Wr h h' a j (.int x)) (hj : j < n) : own_IA Z h' a n (fun i => if i = j then x else f i) := by
  refine ⟨c.setSlot j (.int x), A.same W, by rw [sz_set]; exact S, fun i hi => ?_⟩
  by_cases e : i = j
  · subst e
    simp [Cell.setSlot, S, hj]
  · simp only [Cell.setSlot, e, if_false]
    rw [Array.getElem?_setIfInBounds_ne (Ne.symm e)]
    exact H i hi
end OwnIA
/-- how many of the first n places hold what P asks -/
def own_num (P : Int32 → Bool) (f : Nat → Int32) : Nat → Nat
  | 0 => 0
  | i + 1 => own_num P f i + if P (f i) = true then 1 else 0
theorem own_num_lo {P : Int32 → Bool} {f : Nat → Int32} {j : Nat} {x : Int32} : ∀ n, n ≤ j → own_num P (fun i => if i = j then x else f i) n = own_num P f n
  | 0, _ => rfl
  | n + 1, h => by
    have e : n ≠ j := by omega
    simp only [own_num, e, if_false]
    rw [own_num_lo n (by omega)]
theorem own_num_hi {P : Int32 → Bool} {f : Nat → Int32} {j : Nat} {x : Int32} (hf : P (f j) = false) : ∀ n, j < n → own_num P (fun i => if i = j then x else f i) n = own_num P f n + if P x = true then 1 else 0
  | 0, h => by omega
  | n + 1, h => by
    by_cases e : n = j
    · subst e
      simp only [own_num, if_true]
      rw [own_num_lo n (Nat.le_refl _), hf]
      simp
    · simp only [own_num, e, if_false]
      rw [own_num_hi hf n (by omega)]
      omega
theorem own_num_all {f : Nat → Int32} : ∀ n, (∀ j, j < n → ¬ f j = -1) → own_num (fun x => x != -1) f n = n
  | 0, _ => rfl
  | n + 1, h => by
    have e := h n (by omega)
    simp only [own_num]
    rw [own_num_all n fun j hj => h j (by omega)]
    simp [e]
theorem own_free {f : Nat → Int32} {n : Nat} (h : own_num (fun x => x != -1) f n < n) : ∃ j, j < n ∧ f j = -1 := by
  apply Classical.byContradiction
  intro q
  have := own_num_all n fun j hj e => q ⟨j, hj, e⟩
  omega
theorem own_num_none {P : Int32 → Bool} (hP : P (-1) = false) : ∀ n, own_num P (fun _ => -1) n = 0
  | 0 => rfl
  | n + 1 => by simp only [own_num]; rw [own_num_none hP n, hP]; rfl
def own_lim (q : Int64) (x : Int32) : Bool := x != -1 && decide (x.toInt64 < q)
def own_TB (Z : State) (h : Heap) (n0 : Nat) (t sl : Addr) (n m : Nat) (mv : Value) (N : Int64 → Nat) : Prop :=
  Exa Z h t "com/example/tidematch/tidematch/greedy/VertexTable" ∧ Fld Z h t "com/example/tidematch/tidematch/greedy/VertexTable" "mSize" "I" (.int (Int32.ofNat m)) ∧ Fld Z h t "com/example/tidematch/tidematch/greedy/VertexTable" "mSlots" "[I" (.ref sl) ∧ Fld Z h t "com/example/tidematch/tidematch/greedy/VertexTable" "mValues" "[I" mv ∧ n0 ≤ sl ∧ sl ≠ t ∧
    ∃ f, own_IA Z h sl n f ∧ own_num (fun x => x != -1) f n = m ∧ ∀ q, own_num (own_lim q) f n = N q
theorem own_fs {i j : Nat} {x y : Int32} : (if j = i then x else if j < i then x else y) = if j < i + 1 then x else y := by
  by_cases a : j = i
  · simp [a]
  · by_cases b : j < i
    · simp [b, show j < i + 1 by omega]
    · simp [a, b, show ¬ j < i + 1 by omega]
theorem own_home16 (x : Int32) : ∃ j, j < 16 ∧ ((x.toUInt32 >>> (((27 : Int32) + (1 : Int32)) &&& 31).toUInt32).toInt32) = Int32.ofNat j := by
  have e := c_iushr x ((27 : Int32) + 1) 28 (by decide) (by decide)
  have e2 : ((2 ^ 28 : Nat) : Int) = 268435456 := by decide
  rw [e2] at e
  refine ⟨(x.toInt % 4294967296 / 268435456).toNat, by omega, ?_⟩
  rw [← Int32.toInt_inj, e, own_n2i (by omega)]
  omega
theorem own_home32 (x : Int32) : ∃ j, j < 32 ∧ ((x.toUInt32 >>> (((26 : Int32) + (1 : Int32)) &&& 31).toUInt32).toInt32) = Int32.ofNat j := by
  have e := c_iushr x ((26 : Int32) + 1) 27 (by decide) (by decide)
  have e2 : ((2 ^ 27 : Nat) : Int) = 134217728 := by decide
  rw [e2] at e
  refine ⟨(x.toInt % 4294967296 / 134217728).toNat, by omega, ?_⟩
  rw [← Int32.toInt_inj, e, own_n2i (by omega)]
  omega
theorem own_wrap16 {i : Nat} (h : i < 16) : (Int32.ofNat i + (1 : Int32)) &&& ((16 : Int32) - (1 : Int32)) = Int32.ofNat ((i + 1) % 16) := by
  have t : ∀ i : Fin 16, (Int32.ofNat i.val + (1 : Int32)) &&& ((16 : Int32) - (1 : Int32)) = Int32.ofNat ((i.val + 1) % 16) := by decide +kernel
  exact t ⟨i, h⟩
theorem own_wrap32 {i : Nat} (h : i < 32) : (Int32.ofNat i + (1 : Int32)) &&& ((32 : Int32) - (1 : Int32)) = Int32.ofNat ((i + 1) % 32) := by
  have t : ∀ i : Fin 32, (Int32.ofNat i.val + (1 : Int32)) &&& ((32 : Int32) - (1 : Int32)) = Int32.ofNat ((i.val + 1) % 32) := by decide +kernel
  exact t ⟨i, h⟩
theorem own_two {m c : Nat} (hm : m < 1000) (hc : c < 1000) : Int32.ofNat c < (2 : Int32) * (Int32.ofNat m + (1 : Int32)) ↔ c < 2 * (m + 1) := by
  have e : (2 : Int32) * (Int32.ofNat m + (1 : Int32)) = Int32.ofNat (2 * (m + 1)) := by
    rw [own_succ, Int32.ofNat_mul]; rfl
  rw [e, own_lt (by omega) (by omega)]
theorem own_cnt1 {f : Nat → Int32} {j n m : Nat} {x : Int32} (hf : f j = -1) (hj : j < n) (hx : ¬ x = -1) (h : own_num (fun x => x != -1) f n = m) : own_num (fun x => x != -1) (fun i => if i = j then x else f i) n = m + 1 := by
  rw [own_num_hi (by simp [hf]) n hj, h]
  simp [hx]
theorem own_cnt2 {f : Nat → Int32} {j n : Nat} {q : Int64} {k : Nat} {x : Int32} (hf : f j = -1) (hj : j < n) (hx : ¬ x = -1) (h : own_num (own_lim q) f n = k) : own_num (own_lim q) (fun i => if i = j then x else f i) n = k + if x.toInt64 < q then 1 else 0 := by
  rw [own_num_hi (by simp [own_lim, hf]) n hj, h]
  simp [own_lim, hx]
theorem own_pos {x : Int32} (h : 0 ≤ x.toInt) : ¬ x = -1 := fun e => by
  rw [e] at h
  revert h; decide
def own_b (h x : Int32) (q : Int64) : Nat := if h = 0 then 0 else if x.toInt64 < q then 1 else 0
theorem own_nonneg (x : Int32) : 0 ≤ (x &&& (2147483647 : Int32)).toInt := by
  have := c_mask x 2147483647 31 (by decide) (by decide)
  omega
theorem d4_0 : decode jdk_65_method_103_code 0 = .ok (.iconst 0, 1) := by decide +kernel
theorem d4_1 : decode jdk_65_method_103_code 1 = .ok (.istore_n 2, 1) := by decide +kernel
theorem d4_2 : decode jdk_65_method_103_code 2 = .ok (.aload_n 0, 1) := by decide +kernel
theorem d4_3 : decode jdk_65_method_103_code 3 = .ok (.arraylength, 1) := by decide +kernel
theorem d4_4 : decode jdk_65_method_103_code 4 = .ok (.istore_n 3, 1) := by decide +kernel
theorem d4_5 : decode jdk_65_method_103_code 5 = .ok (.iload_n 2, 1) := by decide +kernel
theorem d4_6 : decode jdk_65_method_103_code 6 = .ok (.iload_n 3, 1) := by decide +kernel
theorem d4_7 : decode jdk_65_method_103_code 7 = .ok (.if_icmp .ge 13, 3) := by decide +kernel
theorem d4_20 : decode jdk_65_method_103_code 20 = .ok (.return_, 1) := by decide +kernel
theorem d4_10 : decode jdk_65_method_103_code 10 = .ok (.aload_n 0, 1) := by decide +kernel
theorem d4_11 : decode jdk_65_method_103_code 11 = .ok (.iload_n 2, 1) := by decide +kernel
theorem d4_12 : decode jdk_65_method_103_code 12 = .ok (.iload_n 1, 1) := by decide +kernel
theorem d4_13 : decode jdk_65_method_103_code 13 = .ok (.iastore, 1) := by decide +kernel
theorem d4_14 : decode jdk_65_method_103_code 14 = .ok (.iinc 2 1, 3) := by decide +kernel
theorem d4_17 : decode jdk_65_method_103_code 17 = .ok (.goto (-12), 3) := by decide +kernel
theorem pn_0 : plainName "java/util/Arrays" = true := by first | (simp [plainName, overriddenIn]; done) | decide +kernel
theorem ef_4 (m : MethodId) (x0 : Addr) (x1 : Int32) : entryFrame m #[(.ref x0), (.int x1)] 4 = mkF m 0 #[.val (.ref x0), .val (.int x1), .unset, .unset] [] := by first | (simp [entryFrame, mkF, argsToLocals, Value.category]; done) | rfl
def Q4 (Z : State) (a1 : Addr) (p2 : Int32) (n : Nat) (f : Nat → Int32) (h0 : Heap) (n0 : Nat) (v : Option Value) (h : Heap) (L : List Loc) : Prop := v = none ∧ Fr n0 L ∧ Keep h0 h [a1] ∧ own_IA Z h a1 n (fun _ => p2)
set_option maxRecDepth 65536 in
set_option maxHeartbeats 40000000 in
theorem rm4 (l : Launch) (Z : State) (a0 : Array Value) (hw : ∀ d ∈ tables_1, d.before a0 Z = true) (ws : List Jvm.Cond) (a1 : Addr) (p2 : Int32) (n : Nat) (f : Nat → Int32) (h0 : Heap) (n0 : Nat) (Z0 : n0 ≤ h0.size) (V1 : own_IA Z h0 a1 n f) (hn : n < 2 ^ 31) (g1 : n0 ≤ a1) :
    MetFree l (⟨"java/util/Arrays", "fill", "([II)V"⟩ : MethodName) (head1 (Jvm.Cond.code (⟨"java/util/Arrays", "fill", "([II)V"⟩ : MethodName) jdk_65_method_103_code 4 none :: ws) ({ frames := 0, cells := 0, slots := 0, locals := 0 } : Room)) (fun a U => a = #[(.ref a1), (.int p2)] ∧ Z.Warmed39 U.vm ∧ U.heap = h0) (fun _ _ _ _ _ => True) (fun _ U o U' => ∃ v L, o = .returned v ∧ Q4 Z a1 p2 n f h0 n0 v U'.heap L ∧ FrameEnd U o U' L ({ frames := 0, cells := 0, slots := 0, locals := 0 } : Room).cells ({ frames := 0, cells := 0, slots := 0, locals := 0 } : Room).slots) := by
  refine MetFree.of_bodySF (plainFor_of_name pn_0) hisR ?_
  intro p e s m args below meth c s₁ Bd hml0 hP hK
  obtain ⟨rfl, hZ, hh⟩ := hP
  have hx := Bd.exec
  have hby := Bd.bytes
  have hml : c.maxLocals = 4 := hml0
  have hown : s.vm.findClass "java/util/Arrays" = some m.cls := findClass_of_methodNamed Bd.named
  have hnm := (name_of_methodNamed Bd.named Bd.method).1
  have X0 : Stand p l e ({ frames := 0, cells := 0, slots := 0, locals := 0 } : Room) s m #[(.ref a1), (.int p2)] below meth c s₁ [] 0 0 := Stand.of_body Bd
  have e0 : s₁.heap = h0 := by rw [← hh, Bd.state]; rfl
  have N0 := Fr.nil n0
  show Go p e below s (Q4 Z a1 p2 n f h0 n0) ({ frames := 0, cells := 0, slots := 0, locals := 0 } : Room).cells ({ frames := 0, cells := 0, slots := 0, locals := 0 } : Room).slots _
  refine Go.via (S' := s₁.setTop (mkF m 0 #[.val (.ref a1), .val (.int p2), .unset, .unset] [])) (fun t k => castTop (ef_4 m a1 p2) k) ?_
  refine Go.via (S' := s₁.setTop (mkF m 1 #[.val (.ref a1), .val (.int p2), .unset, .unset] [(.int (0 : Int32))])) (fun _ k => XS.iconst X0.here hx rfl (hb hby d4_0) k) ?_
  refine Go.via (S' := s₁.setTop (mkF m 2 #[.val (.ref a1), .val (.int p2), .val (.int (0 : Int32)), .unset] [])) (fun _ k => XS.istoreN X0.here hx rfl (hb hby d4_1) rfl (l' := #[.val (.ref a1), .val (.int p2), .val (.int (0 : Int32)), .unset]) rfl k) ?_
  refine Go.via (S' := s₁.setTop (mkF m 3 #[.val (.ref a1), .val (.int p2), .val (.int (0 : Int32)), .unset] [(.ref a1)])) (fun _ k => XS.aloadN X0.here hx rfl (hb hby d4_2) rfl rfl k) ?_
  obtain ⟨c1, Ar1, S1, -⟩ := id V1
  refine Go.via (S' := s₁.setTop (mkF m 4 #[.val (.ref a1), .val (.int p2), .val (.int (0 : Int32)), .unset] [(.int c1.slots.size.toInt32)])) (fun _ k => X0.arraylength hx (by rw [e0]; exact Ar1.1) (State.isArrayOf_alike hZ.alike Ar1.2.1) (g := (mkF m 3 #[.val (.ref a1), .val (.int p2), .val (.int (0 : Int32)), .unset] [(.ref a1)])) rfl rfl (hb hby d4_3) _ k) ?_
  rw [S1]
  show Go p e below s (Q4 Z a1 p2 n f h0 n0) ({ frames := 0, cells := 0, slots := 0, locals := 0 } : Room).cells ({ frames := 0, cells := 0, slots := 0, locals := 0 } : Room).slots (s₁.setTop (mkF m 4 #[.val (.ref a1), .val (.int p2), .val (.int (0 : Int32)), .unset] [(.int (Int32.ofNat n))]))
  refine Go.via (S' := s₁.setTop (mkF m 5 #[.val (.ref a1), .val (.int p2), .val (.int (0 : Int32)), .val (.int (Int32.ofNat n))] [])) (fun _ k => XS.istoreN X0.here hx rfl (hb hby d4_4) rfl (l' := #[.val (.ref a1), .val (.int p2), .val (.int (0 : Int32)), .val (.int (Int32.ofNat n))]) rfl k) ?_
  suffices LP : ∀ (k : Nat) (T2 : State) (h2 : Heap) (lo2 : List Loc) (i : Nat) (X2 : Stand p l e ({ frames := 0, cells := 0, slots := 0, locals := 0 } : Room) s m #[(.ref a1), (.int p2)] below meth c T2 lo2 0 0) (e2 : T2.heap = h2) (N2 : Fr n0 lo2) (z2 : n0 ≤ h2.size) (K2 : Keep h0 h2 [a1]) (fn2_0 : own_IA Z h2 a1 n (fun j => if j < i then p2 else f j)) (hik : i + k = n), Go p e below s (Q4 Z a1 p2 n f h0 n0) ({ frames := 0, cells := 0, slots := 0, locals := 0 } : Room).cells ({ frames := 0, cells := 0, slots := 0, locals := 0 } : Room).slots (T2.setTop (mkF m 5 #[.val (.ref a1), .val (.int p2), .val (.int (Int32.ofNat i)), .val (.int (Int32.ofNat n))] [])) by
    exact LP n s₁ h0 _ 0 (X0.more (by decide) (by decide)) e0 N0 Z0 (Keep.refl h0 [a1]) (V1.congr fun j _ => (if_neg (Nat.not_lt_zero j)).symm) (Nat.zero_add n)
  intro k
  induction k with
  | zero =>
    intro T2 h2 lo2 i X2 e2 N2 z2 K2 fn2_0 hik
    refine Go.via (S' := T2.setTop (mkF m 6 #[.val (.ref a1), .val (.int p2), .val (.int (Int32.ofNat i)), .val (.int (Int32.ofNat n))] [(.int (Int32.ofNat i))])) (fun _ k => XS.iloadN X2.here hx rfl (hb hby d4_5) rfl k) ?_
    refine Go.via (S' := T2.setTop (mkF m 7 #[.val (.ref a1), .val (.int p2), .val (.int (Int32.ofNat i)), .val (.int (Int32.ofNat n))] [(.int (Int32.ofNat n)), (.int (Int32.ofNat i))])) (fun _ k => XS.iloadN X2.here hx rfl (hb hby d4_6) rfl k) ?_
    refine Go.via (S' := T2.setTop (mkF m 20 #[.val (.ref a1), .val (.int p2), .val (.int (Int32.ofNat i)), .val (.int (Int32.ofNat n))] [])) (fun _ k => XS.icmpYes X2.here hx rfl (pc0 := 7) (pc' := 20) rfl (hb hby d4_7) rfl (flt (fun q => by have := (own_lt (show i < 2 ^ 31 by omega) hn).mp q; omega)).2.1 (by decide) (by decide) k) ?_
    exact Go.retV X2 hx (BodyLoose.notSynchronized Bd) Bd.returns (hb hby d4_20) (by rw [e2]; exact ⟨rfl, N2, K2, fn2_0.congr fun j hj => if_pos (by omega)⟩) (by decide) (by decide)
  | succ k ih =>
    intro T2 h2 lo2 i X2 e2 N2 z2 K2 fn2_0 hik
    refine Go.via (S' := T2.setTop (mkF m 6 #[.val (.ref a1), .val (.int p2), .val (.int (Int32.ofNat i)), .val (.int (Int32.ofNat n))] [(.int (Int32.ofNat i))])) (fun _ k => XS.iloadN X2.here hx rfl (hb hby d4_5) rfl k) ?_
    refine Go.via (S' := T2.setTop (mkF m 7 #[.val (.ref a1), .val (.int p2), .val (.int (Int32.ofNat i)), .val (.int (Int32.ofNat n))] [(.int (Int32.ofNat n)), (.int (Int32.ofNat i))])) (fun _ k => XS.iloadN X2.here hx rfl (hb hby d4_6) rfl k) ?_
    refine Go.via (S' := T2.setTop (mkF m 10 #[.val (.ref a1), .val (.int p2), .val (.int (Int32.ofNat i)), .val (.int (Int32.ofNat n))] [])) (fun _ k => XS.icmpNo X2.here hx rfl (hb hby d4_7) rfl (tlt ((own_lt (show i < 2 ^ 31 by omega) hn).mpr (by omega))).2.1 k) ?_
    refine Go.via (S' := T2.setTop (mkF m 11 #[.val (.ref a1), .val (.int p2), .val (.int (Int32.ofNat i)), .val (.int (Int32.ofNat n))] [(.ref a1)])) (fun _ k => XS.aloadN X2.here hx rfl (hb hby d4_10) rfl rfl k) ?_
    refine Go.via (S' := T2.setTop (mkF m 12 #[.val (.ref a1), .val (.int p2), .val (.int (Int32.ofNat i)), .val (.int (Int32.ofNat n))] [(.int (Int32.ofNat i)), (.ref a1)])) (fun _ k => XS.iloadN X2.here hx rfl (hb hby d4_11) rfl k) ?_
    refine Go.via (S' := T2.setTop (mkF m 13 #[.val (.ref a1), .val (.int p2), .val (.int (Int32.ofNat i)), .val (.int (Int32.ofNat n))] [(.int p2), (.int (Int32.ofNat i)), (.ref a1)])) (fun _ k => XS.iloadN X2.here hx rfl (hb hby d4_12) rfl k) ?_
    obtain ⟨c3, Ar3, S3, H3⟩ := id fn2_0
    have in3 : ¬ ((Int32.ofNat i) < 0 ∨ c3.slots.size ≤ ((Int32.ofNat i)).toNatClampNeg) := by
      rw [S3, own_ncl (show i < 2 ^ 31 by omega)]
      exact fun q => q.elim (own_nn (show i < 2 ^ 31 by omega)) (Nat.not_le.mpr (show i < n by omega))
    obtain ⟨T3, h3, X3, e3, W3, st3⟩ := stI X2 hx hZ e2 Ar3 (j := (Int32.ofNat i)) in3 (g := (mkF m 13 #[.val (.ref a1), .val (.int p2), .val (.int (Int32.ofNat i)), .val (.int (Int32.ofNat n))] [(.int p2), (.int (Int32.ofNat i)), (.ref a1)])) rfl rfl (hb hby d4_13)
    have N4 := Fr.snoc X3 N2 g1
    have Wn3 := W3
    rw [own_ncl (show i < 2 ^ 31 by omega)] at Wn3
    have V3 := own_IA.set Ar3 S3 H3 Wn3 (show i < n by omega)
    have z5 := Nat.le_trans z2 (Keep.of_wr W3).1
    have K6 := K2.wr W3 (Or.inl (List.mem_of_getElem? (i := 0) rfl))
    refine Go.via (S' := T3.setTop (mkF m 14 #[.val (.ref a1), .val (.int p2), .val (.int (Int32.ofNat i)), .val (.int (Int32.ofNat n))] [])) (fun _ k => st3 _ k) ?_
    refine Go.via (S' := T3.setTop (mkF m 17 #[.val (.ref a1), .val (.int p2), .val (.int ((Int32.ofNat i) + (1 : Int32))), .val (.int (Int32.ofNat n))] [])) (fun _ k => XS.iinc X3.here hx rfl (hb hby d4_14) rfl (l' := #[.val (.ref a1), .val (.int p2), .val (.int ((Int32.ofNat i) + (1 : Int32))), .val (.int (Int32.ofNat n))]) rfl k) ?_
    refine Go.via (S' := T3.setTop (mkF m 5 #[.val (.ref a1), .val (.int p2), .val (.int ((Int32.ofNat i) + (1 : Int32))), .val (.int (Int32.ofNat n))] [])) (fun _ k => XS.goto X3.here hx rfl (pc0 := 17) (pc' := 5) rfl (hb hby d4_17) (by decide) (by decide) k) ?_
    rw [own_succ]
    exact ih T3 h3 _ (i + 1) (X3.more (by decide) (by decide)) e3 N4 z5 K6 (V3.congr fun j _ => own_fs) (by omega)
theorem d3_0 : decode prog_26_method_15_code 0 = .ok (.iload_n 0, 1) := by decide +kernel
theorem d3_1 : decode prog_26_method_15_code 1 = .ok (.newarray .int, 2) := by decide +kernel
theorem d3_3 : decode prog_26_method_15_code 3 = .ok (.astore_n 1, 1) := by decide +kernel
theorem d3_4 : decode prog_26_method_15_code 4 = .ok (.aload_n 1, 1) := by decide +kernel
theorem d3_5 : decode prog_26_method_15_code 5 = .ok (.iconst (-1), 1) := by decide +kernel
theorem d3_6 : decode prog_26_method_15_code 6 = .ok (.invokestatic 69, 3) := by decide +kernel
theorem pd_0 : parseMethodDescriptor "([II)V" = some ⟨[(.array .int), .int], none⟩ := by decide +kernel
theorem d3_9 : decode prog_26_method_15_code 9 = .ok (.aload_n 1, 1) := by decide +kernel
theorem d3_10 : decode prog_26_method_15_code 10 = .ok (.areturn, 1) := by decide +kernel
theorem pn_1 : plainName "com/example/tidematch/tidematch/greedy/VertexTable" = true := by first | (simp [plainName, overriddenIn]; done) | decide +kernel
theorem ef_3 (m : MethodId) (x0 : Int32) : entryFrame m #[(.int x0)] 2 = mkF m 0 #[.val (.int x0), .unset] [] := by first | (simp [entryFrame, mkF, argsToLocals, Value.category]; done) | rfl
def Q3 (Z : State) (p1 : Int32) (n : Nat) (h0 : Heap) (n0 : Nat) (v : Option Value) (h : Heap) (L : List Loc) : Prop := ∃ r : Addr, v = some (.ref r) ∧ Fr n0 L ∧ Keep h0 h [] ∧ n0 ≤ r ∧ h0.size ≤ r ∧ own_IA Z h r n (fun _ => -1)
set_option maxRecDepth 65536 in
set_option maxHeartbeats 40000000 in
theorem rm3 (l : Launch) (Z : State) (a0 : Array Value) (hw : ∀ d ∈ tables_1, d.before a0 Z = true) (ws : List Jvm.Cond) (p1 : Int32) (n : Nat) (h0 : Heap) (n0 : Nat) (Z0 : n0 ≤ h0.size) (hp : p1 = Int32.ofNat n) (hn : n ≤ 16) :
    MetFree l (⟨"com/example/tidematch/tidematch/greedy/VertexTable", "freeSlots", "(I)[I"⟩ : MethodName) (head1 (Jvm.Cond.code (⟨"com/example/tidematch/tidematch/greedy/VertexTable", "freeSlots", "(I)[I"⟩ : MethodName) prog_26_method_15_code 2 (some (.array .int)) :: ws) ({ frames := 1, cells := 1, slots := 16, locals := 15 } : Room)) (fun a U => a = #[(.int p1)] ∧ Z.Warmed39 U.vm ∧ U.heap = h0) (fun _ _ _ _ _ => True) (fun _ U o U' => ∃ v L, o = .returned v ∧ Q3 Z p1 n h0 n0 v U'.heap L ∧ FrameEnd U o U' L ({ frames := 1, cells := 1, slots := 16, locals := 15 } : Room).cells ({ frames := 1, cells := 1, slots := 16, locals := 15 } : Room).slots) := by
  refine MetFree.of_bodySF (plainFor_of_name pn_1) hisR ?_
  intro p e s m args below meth c s₁ Bd hml0 hP hK
  obtain ⟨rfl, hZ, hh⟩ := hP
  have hx := Bd.exec
  have hby := Bd.bytes
  have hml : c.maxLocals = 2 := hml0
  have hown : s.vm.findClass "com/example/tidematch/tidematch/greedy/VertexTable" = some m.cls := findClass_of_methodNamed Bd.named
  have hnm := (name_of_methodNamed Bd.named Bd.method).1
  have X0 : Stand p l e ({ frames := 1, cells := 1, slots := 16, locals := 15 } : Room) s m #[(.int p1)] below meth c s₁ [] 0 0 := Stand.of_body Bd
  have e0 : s₁.heap = h0 := by rw [← hh, Bd.state]; rfl
  have N0 := Fr.nil n0
  show Go p e below s (Q3 Z p1 n h0 n0) ({ frames := 1, cells := 1, slots := 16, locals := 15 } : Room).cells ({ frames := 1, cells := 1, slots := 16, locals := 15 } : Room).slots _
  refine Go.via (S' := s₁.setTop (mkF m 0 #[.val (.int p1), .unset] [])) (fun t k => castTop (ef_3 m p1) k) ?_
  subst hp
  refine Go.via (S' := s₁.setTop (mkF m 1 #[.val (.int (Int32.ofNat n)), .unset] [(.int (Int32.ofNat n))])) (fun _ k => XS.iloadN X0.here hx rfl (hb hby d3_0) rfl k) ?_
  obtain ⟨T1, h1, k1, X1, e1, E1, A1, st1⟩ := newP X0 hx hZ (hw _ (List.mem_of_getElem? (i := 13) rfl)) e0 (g := (mkF m 1 #[.val (.int (Int32.ofNat n)), .unset] [(.int (Int32.ofNat n))])) rfl (hb hby d3_1) rfl (own_nn (show n < 2 ^ 31 by omega)) (cap := 16) (by rw [own_ncl (show n < 2 ^ 31 by omega)]; exact hn) (by decide) (by decide) (by decide)
  obtain ⟨b1, g1⟩ : ∃ z, z = h0.size := ⟨_, rfl⟩
  rw [← g1] at A1 st1
  have g2 : n0 ≤ b1 := Nat.le_trans Z0 (Nat.le_of_eq g1.symm)
  have g3 : h0.size ≤ b1 := Nat.le_trans (Keep.refl h0 []).1 (Nat.le_of_eq g1.symm)
  have z4 := Nat.le_trans Z0 E1.1
  have K5 := (Keep.refl h0 []).ext E1
  have V6 : Arv Z h1 b1 k1 .int (Int32.ofNat n) [] (.int (0 : Int32)) := (Arv.new A1 (own_nn (show n < 2 ^ 31 by omega)))
  refine Go.via (S' := T1.setTop (mkF m 3 #[.val (.int (Int32.ofNat n)), .unset] [(.ref b1)])) (fun _ k => st1 _ k) ?_
  have VI1 : own_IA Z h1 b1 n (fun _ => 0) := by
    have q := own_IA.new A1
    rw [own_ncl (show n < 2 ^ 31 by omega)] at q
    exact q
  refine Go.via (S' := T1.setTop (mkF m 4 #[.val (.int (Int32.ofNat n)), .val (.ref b1)] [])) (fun _ k => XS.astoreN X1.here hx rfl (hb hby d3_3) rfl rfl (l' := #[.val (.int (Int32.ofNat n)), .val (.ref b1)]) rfl k) ?_
  refine Go.via (S' := T1.setTop (mkF m 5 #[.val (.int (Int32.ofNat n)), .val (.ref b1)] [(.ref b1)])) (fun _ k => XS.aloadN X1.here hx rfl (hb hby d3_4) rfl rfl k) ?_
  refine Go.via (S' := T1.setTop (mkF m 6 #[.val (.int (Int32.ofNat n)), .val (.ref b1)] [(.int (-1 : Int32)), (.ref b1)])) (fun _ k => XS.iconst X1.here hx rfl (hb hby d3_5) k) ?_
  obtain ⟨_, _, ⟨T7, L7, k7, n7⟩, -, X7, ⟨Lc7, hQ7, l7, y7, z7⟩, st7⟩ := Jvm.LawKit.callS X1 hx (y := (⟨"java/util/Arrays", "fill", "([II)V"⟩ : MethodName)) hown (mvT hZ (hw _ (List.mem_of_getElem? (i := 14) rfl))) (mvT hZ (hw _ (List.mem_of_getElem? (i := 15) rfl))) (mvT hZ (hw _ (List.mem_of_getElem? (i := 16) rfl))) (mvT hZ (hw _ (List.mem_of_getElem? (i := 17) rfl))) (by decide) (backOf (W := 0) (rm4 l Z a0 hw [] b1 (-1) n (fun _ => 0) h1 n0 z4 VI1 (show n < 2 ^ 31 by omega) g2) hZ (hw _ (List.mem_of_getElem? (i := 17) rfl)) (hw _ (List.mem_of_getElem? (i := 16) rfl)) (by decide) (by decide)) (g := (mkF m 6 #[.val (.int (Int32.ofNat n)), .val (.ref b1)] [(.int (-1 : Int32)), (.ref b1)])) rfl (by rw [hml]; rfl) (argsL := [(.ref b1), (.int (-1 : Int32))]) (rest := []) (lenOf pd_0 rfl) rfl (by show 2 * 0 + _ ≤ _; exact Nat.le_of_eq rfl) (hb hby d3_6) (fun _ _ => ⟨rfl, e1, (by decide : 1 + 0 ≤ _), (by decide : 16 + 0 ≤ _)⟩)
  dsimp only [Pt.U, Pt.locs, Pt.cells, Pt.slots] at X7 l7 y7 z7 st7 hQ7
  subst l7 y7 z7
  obtain ⟨rfl, N7q, K7, Vf7⟩ := hQ7
  have N8 := Fr.app N0 N7q
  have z9 := Nat.le_trans z4 K7.1
  have K10 := K5.trans K7 (allS (Or.inr g3) all0)
  refine Go.via (S' := T7.setTop (mkF m 9 #[.val (.int (Int32.ofNat n)), .val (.ref b1)] [])) (fun _ k => st7 _ k) ?_
  refine Go.via (S' := T7.setTop (mkF m 10 #[.val (.int (Int32.ofNat n)), .val (.ref b1)] [(.ref b1)])) (fun _ k => XS.aloadN X7.here hx rfl (hb hby d3_9) rfl rfl k) ?_
  exact Go.retA X7 hx (BodyLoose.notSynchronized Bd) Bd.returns rfl rfl rfl (hb hby d3_10) ⟨_, rfl, N8, K10, g2, g3, Vf7⟩ (by decide) (by decide)
theorem d1_0 : decode prog_26_method_1_code 0 = .ok (.aload_n 0, 1) := by decide +kernel
theorem d1_1 : decode prog_26_method_1_code 1 = .ok (.invokespecial 1, 3) := by decide +kernel
theorem d1_4 : decode prog_26_method_1_code 4 = .ok (.aload_n 0, 1) := by decide +kernel
theorem d1_5 : decode prog_26_method_1_code 5 = .ok (.bipush 16, 2) := by decide +kernel
theorem d1_7 : decode prog_26_method_1_code 7 = .ok (.invokestatic 9, 3) := by decide +kernel
theorem pd_1 : parseMethodDescriptor "(I)[I" = some ⟨[.int], some (.array .int)⟩ := by decide +kernel
theorem d1_10 : decode prog_26_method_1_code 10 = .ok (.putfield 13, 3) := by decide +kernel
theorem d1_13 : decode prog_26_method_1_code 13 = .ok (.aload_n 0, 1) := by decide +kernel
theorem d1_14 : decode prog_26_method_1_code 14 = .ok (.iload_n 1, 1) := by decide +kernel
theorem d1_15 : decode prog_26_method_1_code 15 = .ok (.ifCond .eq 10, 3) := by decide +kernel
theorem d1_25 : decode prog_26_method_1_code 25 = .ok (.aconst_null, 1) := by decide +kernel
theorem d1_26 : decode prog_26_method_1_code 26 = .ok (.putfield 17, 3) := by decide +kernel
theorem d1_29 : decode prog_26_method_1_code 29 = .ok (.return_, 1) := by decide +kernel
theorem d1_18 : decode prog_26_method_1_code 18 = .ok (.bipush 16, 2) := by decide +kernel
theorem d1_20 : decode prog_26_method_1_code 20 = .ok (.newarray .int, 2) := by decide +kernel
theorem d1_22 : decode prog_26_method_1_code 22 = .ok (.goto 4, 3) := by decide +kernel
theorem ef_1 (m : MethodId) (x0 : Addr) (x1 : Int32) : entryFrame m #[(.ref x0), (.int x1)] 2 = mkF m 0 #[.val (.ref x0), .val (.int x1)] [] := by first | (simp [entryFrame, mkF, argsToLocals, Value.category]; done) | rfl
def Q1 (Z : State) (a1 : Addr) (p2 : Int32) (h0 : Heap) (n0 : Nat) (v : Option Value) (h : Heap) (L : List Loc) : Prop := v = none ∧ Fr n0 L ∧ Keep h0 h [a1] ∧ ∃ (sl : Addr) (mv : Value), h0.size ≤ sl ∧ own_TB Z h n0 a1 sl 16 0 mv (fun _ => 0) ∧ ((p2 = 0 ∧ mv = .null) ∨ (¬ p2 = 0 ∧ ∃ vl : Addr, mv = .ref vl ∧ h0.size ≤ vl ∧ n0 ≤ vl ∧ vl ≠ sl ∧ vl ≠ a1 ∧ own_IA Z h vl 16 (fun _ => 0)))
set_option maxRecDepth 65536 in
set_option maxHeartbeats 40000000 in
theorem rm1 (l : Launch) (Z : State) (a0 : Array Value) (hw : ∀ d ∈ tables_1, d.before a0 Z = true) (ws : List Jvm.Cond) (a1 : Addr) (p2 : Int32) (h0 : Heap) (n0 : Nat) (Z0 : n0 ≤ h0.size) (E1 : Exa Z h0 a1 "com/example/tidematch/tidematch/greedy/VertexTable") (F_mSlots : Fld Z h0 a1 "com/example/tidematch/tidematch/greedy/VertexTable" "mSlots" "[I" .null) (F_mValues : Fld Z h0 a1 "com/example/tidematch/tidematch/greedy/VertexTable" "mValues" "[I" .null) (F_mSize : Fld Z h0 a1 "com/example/tidematch/tidematch/greedy/VertexTable" "mSize" "I" (.int (0 : Int32))) (g1 : n0 ≤ a1) :
    MetFree l (⟨"com/example/tidematch/tidematch/greedy/VertexTable", "<init>", "(Z)V"⟩ : MethodName) (head1 (Jvm.Cond.code (⟨"com/example/tidematch/tidematch/greedy/VertexTable", "<init>", "(Z)V"⟩ : MethodName) prog_26_method_1_code 2 none :: ws) ({ frames := 2, cells := 2, slots := 32, locals := 29 } : Room)) (fun a U => a = #[(.ref a1), (.int p2)] ∧ Z.Warmed39 U.vm ∧ U.heap = h0) (fun _ _ _ _ _ => True) (fun _ U o U' => ∃ v L, o = .returned v ∧ Q1 Z a1 p2 h0 n0 v U'.heap L ∧ FrameEnd U o U' L ({ frames := 2, cells := 2, slots := 32, locals := 29 } : Room).cells ({ frames := 2, cells := 2, slots := 32, locals := 29 } : Room).slots) := by
  refine MetFree.of_bodySF (plainFor_of_name pn_1) hisR ?_
  intro p e s m args below meth c s₁ Bd hml0 hP hK
  obtain ⟨rfl, hZ, hh⟩ := hP
  have hx := Bd.exec
  have hby := Bd.bytes
  have hml : c.maxLocals = 2 := hml0
  have hown : s.vm.findClass "com/example/tidematch/tidematch/greedy/VertexTable" = some m.cls := findClass_of_methodNamed Bd.named
  have hnm := (name_of_methodNamed Bd.named Bd.method).1
  have X0 : Stand p l e ({ frames := 2, cells := 2, slots := 32, locals := 29 } : Room) s m #[(.ref a1), (.int p2)] below meth c s₁ [] 0 0 := Stand.of_body Bd
  have e0 : s₁.heap = h0 := by rw [← hh, Bd.state]; rfl
  have N0 := Fr.nil n0
  show Go p e below s (Q1 Z a1 p2 h0 n0) ({ frames := 2, cells := 2, slots := 32, locals := 29 } : Room).cells ({ frames := 2, cells := 2, slots := 32, locals := 29 } : Room).slots _
  refine Go.via (S' := s₁.setTop (mkF m 0 #[.val (.ref a1), .val (.int p2)] [])) (fun t k => castTop (ef_1 m a1 p2) k) ?_
  refine Go.via (S' := s₁.setTop (mkF m 1 #[.val (.ref a1), .val (.int p2)] [(.ref a1)])) (fun _ k => XS.aloadN X0.here hx rfl (hb hby d1_0) rfl rfl k) ?_
  obtain ⟨T1, X1, e1, st1⟩ := initO X0 hx hZ hown (hw _ (List.mem_of_getElem? (i := 7) rfl)) (hw _ (List.mem_of_getElem? (i := 8) rfl)) (hw _ (List.mem_of_getElem? (i := 9) rfl)) e0 (g := (mkF m 1 #[.val (.ref a1), .val (.int p2)] [(.ref a1)])) rfl (by rw [hml]; rfl) rfl (hb hby d1_1) (by decide) (W := 0) (by show 2 * 0 + _ ≤ _; exact Nat.le_of_eq rfl) (by decide)
  refine Go.via (S' := T1.setTop (mkF m 4 #[.val (.ref a1), .val (.int p2)] [])) (fun _ k => st1 _ k) ?_
  refine Go.via (S' := T1.setTop (mkF m 5 #[.val (.ref a1), .val (.int p2)] [(.ref a1)])) (fun _ k => XS.aloadN X1.here hx rfl (hb hby d1_4) rfl rfl k) ?_
  refine Go.via (S' := T1.setTop (mkF m 7 #[.val (.ref a1), .val (.int p2)] [(.int (16 : Int32)), (.ref a1)])) (fun _ k => XS.bipush X1.here hx rfl (hb hby d1_5) k) ?_
  obtain ⟨_, _, ⟨T2, L2, k2, n2⟩, -, X2, ⟨Lc2, hQ2, l2, y2, z2⟩, st2⟩ := Jvm.LawKit.callS X1 hx (y := (⟨"com/example/tidematch/tidematch/greedy/VertexTable", "freeSlots", "(I)[I"⟩ : MethodName)) hown (mvT hZ (hw _ (List.mem_of_getElem? (i := 10) rfl))) (mvT hZ (hw _ (List.mem_of_getElem? (i := 11) rfl))) (mvT hZ (hw _ (List.mem_of_getElem? (i := 3) rfl))) (mvT hZ (hw _ (List.mem_of_getElem? (i := 12) rfl))) (by decide) (backOf (W := 1) (rm3 l Z a0 hw [] (16 : Int32) 16 h0 n0 Z0 rfl (by decide)) hZ (hw _ (List.mem_of_getElem? (i := 12) rfl)) (hw _ (List.mem_of_getElem? (i := 3) rfl)) (by decide) (by decide)) (g := (mkF m 7 #[.val (.ref a1), .val (.int p2)] [(.int (16 : Int32)), (.ref a1)])) rfl (by rw [hml]; rfl) (argsL := [(.int (16 : Int32))]) (rest := [(.ref a1)]) (lenOf pd_1 rfl) rfl (by show 2 * 0 + _ ≤ _; exact Nat.le_of_eq rfl) (hb hby d1_7) (fun _ _ => ⟨rfl, e1, (by decide : 0 + 1 ≤ _), (by decide : 0 + 16 ≤ _)⟩)
  dsimp only [Pt.U, Pt.locs, Pt.cells, Pt.slots] at X2 l2 y2 z2 st2 hQ2
  subst l2 y2 z2
  obtain ⟨r2, rfl, N2q, K2, u12, u22, Vr2⟩ := hQ2
  have N3 := Fr.app N0 N2q
  have f4 := E1.keep K2
  have f5 := F_mSlots.keep K2 nin0
  have f6 := F_mValues.keep K2 nin0
  have f7 := F_mSize.keep K2 nin0
  have z8 := Nat.le_trans Z0 K2.1
  have K9 := (Keep.refl h0 [a1]).trans K2 all0
  refine Go.via (S' := T2.setTop (mkF m 10 #[.val (.ref a1), .val (.int p2)] [(.ref r2), (.ref a1)])) (fun _ k => st2 _ k) ?_
  have ne10 : a1 ≠ r2 := Nat.ne_of_lt (Nat.lt_of_lt_of_le E1.lt u22)
  have g11 : h0.size ≤ r2 := Nat.le_trans (Keep.refl h0 [a1]).1 u22
  obtain ⟨T12, h12, X12, e12, W12, st12⟩ := putF X2 hx hZ hown (host := "") (Or.inl (hw _ (List.mem_of_getElem? (i := 18) rfl))) Via.refl rfl f5 f4 (Or.inl (hw _ (List.mem_of_getElem? (i := 19) rfl))) (hw _ (List.mem_of_getElem? (i := 2) rfl)) (ty := (.array .int)) (by decide) rfl rfl (g := (mkF m 10 #[.val (.ref a1), .val (.int p2)] [(.ref r2), (.ref a1)])) rfl rfl (hb hby d1_10)
  have N13 := Fr.snoc X12 N3 g1
  have f14 := f4.wr W12
  have f15 := f5.same W12
  have f16 := f6.other W12 (Or.inr (slot_ne (Or.inl (hw _ (List.mem_of_getElem? (i := 21) rfl))) (Or.inl (hw _ (List.mem_of_getElem? (i := 19) rfl))) (by decide) (t := (.array .int)) (t' := (.array .int)) (by decide) (by decide)))
  have f17 := f7.other W12 (Or.inr (slot_ne (Or.inl (hw _ (List.mem_of_getElem? (i := 43) rfl))) (Or.inl (hw _ (List.mem_of_getElem? (i := 19) rfl))) (by decide) (t := .int) (t' := (.array .int)) (by decide) (by decide)))
  have f18 := Vr2.other W12 (Ne.symm ne10)
  have z19 := Nat.le_trans z8 (Keep.of_wr W12).1
  have K20 := K9.wr W12 (Or.inl (List.mem_of_getElem? (i := 0) rfl))
  refine Go.via (S' := T12.setTop (mkF m 13 #[.val (.ref a1), .val (.int p2)] [])) (fun _ k => st12 _ k) ?_
  refine Go.via (S' := T12.setTop (mkF m 14 #[.val (.ref a1), .val (.int p2)] [(.ref a1)])) (fun _ k => XS.aloadN X12.here hx rfl (hb hby d1_13) rfl rfl k) ?_
  refine Go.via (S' := T12.setTop (mkF m 15 #[.val (.ref a1), .val (.int p2)] [(.int p2), (.ref a1)])) (fun _ k => XS.iloadN X12.here hx rfl (hb hby d1_14) rfl k) ?_
  rcases Decidable.em (p2 = (0 : Int32)) with hc15 | hc15
  · refine Go.via (S' := T12.setTop (mkF m 25 #[.val (.ref a1), .val (.int p2)] [(.ref a1)])) (fun _ k => XS.ifYes X12.here hx rfl (pc0 := 15) (pc' := 25) rfl (hb hby d1_15) rfl ((if0 _ _).trans (teq hc15).1) (by decide) (by decide) k) ?_
    refine Go.via (S' := T12.setTop (mkF m 26 #[.val (.ref a1), .val (.int p2)] [.null, (.ref a1)])) (fun _ k => XS.aconstNull X12.here hx rfl (hb hby d1_25) k) ?_
    obtain ⟨T21, h21, X21, e21, W21, st21⟩ := putF X12 hx hZ hown (host := "") (Or.inl (hw _ (List.mem_of_getElem? (i := 20) rfl))) Via.refl e12 f16 f14 (Or.inl (hw _ (List.mem_of_getElem? (i := 21) rfl))) (hw _ (List.mem_of_getElem? (i := 2) rfl)) (ty := (.array .int)) (by decide) rfl rfl (g := (mkF m 26 #[.val (.ref a1), .val (.int p2)] [.null, (.ref a1)])) rfl rfl (hb hby d1_26)
    have N22 := Fr.snoc X21 N13 g1
    have f23 := f14.wr W21
    have f24 := f15.other W21 (Or.inr (slot_ne (Or.inl (hw _ (List.mem_of_getElem? (i := 19) rfl))) (Or.inl (hw _ (List.mem_of_getElem? (i := 21) rfl))) (by decide) (t := (.array .int)) (t' := (.array .int)) (by decide) (by decide)))
    have f25 := f16.same W21
    have f26 := f17.other W21 (Or.inr (slot_ne (Or.inl (hw _ (List.mem_of_getElem? (i := 43) rfl))) (Or.inl (hw _ (List.mem_of_getElem? (i := 21) rfl))) (by decide) (t := .int) (t' := (.array .int)) (by decide) (by decide)))
    have f27 := f18.other W21 (Ne.symm ne10)
    have z28 := Nat.le_trans z19 (Keep.of_wr W21).1
    have K29 := K20.wr W21 (Or.inl (List.mem_of_getElem? (i := 0) rfl))
    refine Go.via (S' := T21.setTop (mkF m 29 #[.val (.ref a1), .val (.int p2)] [])) (fun _ k => st21 _ k) ?_
    exact Go.retV X21 hx (BodyLoose.notSynchronized Bd) Bd.returns (hb hby d1_29) (by rw [e21]; exact ⟨rfl, N22, K29, _, _, g11, ⟨f23, f26, f24, f25, u12, (Ne.symm ne10), (fun _ => -1), f27, own_num_none rfl 16, fun _ => own_num_none rfl 16⟩, Or.inl ⟨hc15, rfl⟩⟩) (by decide) (by decide)
  · refine Go.via (S' := T12.setTop (mkF m 18 #[.val (.ref a1), .val (.int p2)] [(.ref a1)])) (fun _ k => XS.ifNo X12.here hx rfl (hb hby d1_15) rfl ((if0 _ _).trans (feq hc15).1) k) ?_
    refine Go.via (S' := T12.setTop (mkF m 20 #[.val (.ref a1), .val (.int p2)] [(.int (16 : Int32)), (.ref a1)])) (fun _ k => XS.bipush X12.here hx rfl (hb hby d1_18) k) ?_
    obtain ⟨T30, h30, k30, X30, e30, E30, A30, st30⟩ := newP X12 hx hZ (hw _ (List.mem_of_getElem? (i := 13) rfl)) e12 (g := (mkF m 20 #[.val (.ref a1), .val (.int p2)] [(.int (16 : Int32)), (.ref a1)])) rfl (hb hby d1_20) rfl (by decide) (cap := 16) (by decide) (by decide) (by decide) (by decide)
    obtain ⟨b30, g30⟩ : ∃ z, z = h12.size := ⟨_, rfl⟩
    rw [← g30] at A30 st30
    have ne31 : a1 ≠ b30 := Nat.ne_of_lt (Nat.lt_of_lt_of_le f14.lt (Nat.le_of_eq g30.symm))
    have ne32 : r2 ≠ b30 := Nat.ne_of_lt (Nat.lt_of_lt_of_le f18.lt (Nat.le_of_eq g30.symm))
    have g33 : n0 ≤ b30 := Nat.le_trans z19 (Nat.le_of_eq g30.symm)
    have g34 : h0.size ≤ b30 := Nat.le_trans K20.1 (Nat.le_of_eq g30.symm)
    have f35 := f14.ext E30
    have f36 := f15.ext E30
    have f37 := f16.ext E30
    have f38 := f17.ext E30
    have f39 := f18.ext E30
    have z40 := Nat.le_trans z19 E30.1
    have K41 := K20.ext E30
    have V42 : Arv Z h30 b30 k30 .int (16 : Int32) [(.int (0 : Int32)), (.int (0 : Int32)), (.int (0 : Int32)), (.int (0 : Int32)), (.int (0 : Int32)), (.int (0 : Int32)), (.int (0 : Int32)), (.int (0 : Int32)), (.int (0 : Int32)), (.int (0 : Int32)), (.int (0 : Int32)), (.int (0 : Int32)), (.int (0 : Int32)), (.int (0 : Int32)), (.int (0 : Int32)), (.int (0 : Int32))] (.int (0 : Int32)) := (Arv.new A30 (by decide)).pad (pad_rep [] (.int (0 : Int32)) 16)
    refine Go.via (S' := T30.setTop (mkF m 22 #[.val (.ref a1), .val (.int p2)] [(.ref b30), (.ref a1)])) (fun _ k => st30 _ k) ?_
    have VI30 : own_IA Z h30 b30 16 (fun _ => 0) := own_IA.new A30
    refine Go.via (S' := T30.setTop (mkF m 26 #[.val (.ref a1), .val (.int p2)] [(.ref b30), (.ref a1)])) (fun _ k => XS.goto X30.here hx rfl (pc0 := 22) (pc' := 26) rfl (hb hby d1_22) (by decide) (by decide) k) ?_
    obtain ⟨T43, h43, X43, e43, W43, st43⟩ := putF X30 hx hZ hown (host := "") (Or.inl (hw _ (List.mem_of_getElem? (i := 20) rfl))) Via.refl e30 f37 f35 (Or.inl (hw _ (List.mem_of_getElem? (i := 21) rfl))) (hw _ (List.mem_of_getElem? (i := 2) rfl)) (ty := (.array .int)) (by decide) rfl rfl (g := (mkF m 26 #[.val (.ref a1), .val (.int p2)] [(.ref b30), (.ref a1)])) rfl rfl (hb hby d1_26)
    have N44 := Fr.snoc X43 N13 g1
    have f45 := f35.wr W43
    have f46 := f36.other W43 (Or.inr (slot_ne (Or.inl (hw _ (List.mem_of_getElem? (i := 19) rfl))) (Or.inl (hw _ (List.mem_of_getElem? (i := 21) rfl))) (by decide) (t := (.array .int)) (t' := (.array .int)) (by decide) (by decide)))
    have f47 := f37.same W43
    have f48 := f38.other W43 (Or.inr (slot_ne (Or.inl (hw _ (List.mem_of_getElem? (i := 43) rfl))) (Or.inl (hw _ (List.mem_of_getElem? (i := 21) rfl))) (by decide) (t := .int) (t' := (.array .int)) (by decide) (by decide)))
    have f49 := f39.other W43 (Ne.symm ne10)
    have f50 := VI30.other W43 (Ne.symm ne31)
    have z51 := Nat.le_trans z40 (Keep.of_wr W43).1
    have K52 := K41.wr W43 (Or.inl (List.mem_of_getElem? (i := 0) rfl))
    refine Go.via (S' := T43.setTop (mkF m 29 #[.val (.ref a1), .val (.int p2)] [])) (fun _ k => st43 _ k) ?_
    exact Go.retV X43 hx (BodyLoose.notSynchronized Bd) Bd.returns (hb hby d1_29) (by rw [e43]; exact ⟨rfl, N44, K52, _, _, g11, ⟨f45, f48, f46, f47, u12, (Ne.symm ne10), (fun _ => -1), f49, own_num_none rfl 16, fun _ => own_num_none rfl 16⟩, Or.inr ⟨hc15, _, rfl, g34, g33, (Ne.symm ne32), (Ne.symm ne31), f50⟩⟩) (by decide) (by decide)
theorem d11_0 : decode jdk_33_method_47_code 0 = .ok (.iload_n 0, 1) := by decide +kernel
theorem d11_1 : decode jdk_33_method_47_code 1 = .ok (.ifCond .gt 14, 3) := by decide +kernel
theorem d11_15 : decode jdk_33_method_47_code 15 = .ok (.bipush 31, 2) := by decide +kernel
theorem d11_17 : decode jdk_33_method_47_code 17 = .ok (.istore_n 1, 1) := by decide +kernel
theorem d11_18 : decode jdk_33_method_47_code 18 = .ok (.iload_n 0, 1) := by decide +kernel
theorem d11_19 : decode jdk_33_method_47_code 19 = .ok (.ldc_w 264, 3) := by decide +kernel
theorem d11_22 : decode jdk_33_method_47_code 22 = .ok (.if_icmp .lt 11, 3) := by decide +kernel
theorem d11_33 : decode jdk_33_method_47_code 33 = .ok (.iload_n 0, 1) := by decide +kernel
theorem d11_34 : decode jdk_33_method_47_code 34 = .ok (.sipush 256, 3) := by decide +kernel
theorem d11_37 : decode jdk_33_method_47_code 37 = .ok (.if_icmp .lt 11, 3) := by decide +kernel
theorem d11_48 : decode jdk_33_method_47_code 48 = .ok (.iload_n 0, 1) := by decide +kernel
theorem d11_49 : decode jdk_33_method_47_code 49 = .ok (.bipush 16, 2) := by decide +kernel
theorem d11_51 : decode jdk_33_method_47_code 51 = .ok (.if_icmp .lt 10, 3) := by decide +kernel
theorem d11_54 : decode jdk_33_method_47_code 54 = .ok (.iinc 1 (-4), 3) := by decide +kernel
theorem d11_57 : decode jdk_33_method_47_code 57 = .ok (.iload_n 0, 1) := by decide +kernel
theorem d11_58 : decode jdk_33_method_47_code 58 = .ok (.iconst 4, 1) := by decide +kernel
theorem d11_59 : decode jdk_33_method_47_code 59 = .ok (.iushr, 1) := by decide +kernel
theorem d11_60 : decode jdk_33_method_47_code 60 = .ok (.istore_n 0, 1) := by decide +kernel
theorem d11_61 : decode jdk_33_method_47_code 61 = .ok (.iload_n 0, 1) := by decide +kernel
theorem d11_62 : decode jdk_33_method_47_code 62 = .ok (.iconst 4, 1) := by decide +kernel
theorem d11_63 : decode jdk_33_method_47_code 63 = .ok (.if_icmp .lt 10, 3) := by decide +kernel
theorem d11_73 : decode jdk_33_method_47_code 73 = .ok (.iload_n 1, 1) := by decide +kernel
theorem d11_74 : decode jdk_33_method_47_code 74 = .ok (.iload_n 0, 1) := by decide +kernel
theorem d11_75 : decode jdk_33_method_47_code 75 = .ok (.iconst 1, 1) := by decide +kernel
theorem d11_76 : decode jdk_33_method_47_code 76 = .ok (.iushr, 1) := by decide +kernel
theorem d11_77 : decode jdk_33_method_47_code 77 = .ok (.isub, 1) := by decide +kernel
theorem d11_78 : decode jdk_33_method_47_code 78 = .ok (.ireturn, 1) := by decide +kernel
theorem pn_2 : plainName "java/lang/Integer" = true := by first | (simp [plainName, overriddenIn]; done) | decide +kernel
theorem ef_11a (m : MethodId) (x0 : Int32) : entryFrame m #[(.int x0)] 2 = mkF m 0 #[.val (.int x0), .unset] [] := by first | (simp [entryFrame, mkF, argsToLocals, Value.category]; done) | rfl
def Q11a (Z : State) (p1 : Int32) (h0 : Heap) (n0 : Nat) (v : Option Value) (h : Heap) (L : List Loc) : Prop := v = some (.int 27) ∧ Fr n0 L ∧ h = h0
set_option maxRecDepth 65536 in
set_option maxHeartbeats 40000000 in
theorem rm11a (l : Launch) (Z : State) (a0 : Array Value) (hw : ∀ d ∈ tables_1, d.before a0 Z = true) (ws : List Jvm.Cond) (p1 : Int32) (h0 : Heap) (n0 : Nat) (Z0 : n0 ≤ h0.size) (hp : p1 = 16) :
    MetFree l (⟨"java/lang/Integer", "numberOfLeadingZeros", "(I)I"⟩ : MethodName) (head1 (Jvm.Cond.code (⟨"java/lang/Integer", "numberOfLeadingZeros", "(I)I"⟩ : MethodName) jdk_33_method_47_code 2 (some .int) :: ws) ({ frames := 0, cells := 0, slots := 0, locals := 0 } : Room)) (fun a U => a = #[(.int p1)] ∧ Z.Warmed39 U.vm ∧ U.heap = h0) (fun _ _ _ _ _ => True) (fun _ U o U' => ∃ v L, o = .returned v ∧ Q11a Z p1 h0 n0 v U'.heap L ∧ FrameEnd U o U' L ({ frames := 0, cells := 0, slots := 0, locals := 0 } : Room).cells ({ frames := 0, cells := 0, slots := 0, locals := 0 } : Room).slots) := by
  refine MetFree.of_bodySF (plainFor_of_name pn_2) hisR ?_
  intro p e s m args below meth c s₁ Bd hml0 hP hK
  obtain ⟨rfl, hZ, hh⟩ := hP
  have hx := Bd.exec
  have hby := Bd.bytes
  have hml : c.maxLocals = 2 := hml0
  have hown : s.vm.findClass "java/lang/Integer" = some m.cls := findClass_of_methodNamed Bd.named
  have hnm := (name_of_methodNamed Bd.named Bd.method).1
  have X0 : Stand p l e ({ frames := 0, cells := 0, slots := 0, locals := 0 } : Room) s m #[(.int p1)] below meth c s₁ [] 0 0 := Stand.of_body Bd
  have e0 : s₁.heap = h0 := by rw [← hh, Bd.state]; rfl
  have N0 := Fr.nil n0
  show Go p e below s (Q11a Z p1 h0 n0) ({ frames := 0, cells := 0, slots := 0, locals := 0 } : Room).cells ({ frames := 0, cells := 0, slots := 0, locals := 0 } : Room).slots _
  refine Go.via (S' := s₁.setTop (mkF m 0 #[.val (.int p1), .unset] [])) (fun t k => castTop (ef_11a m p1) k) ?_
  subst hp
  refine Go.via (S' := s₁.setTop (mkF m 1 #[.val (.int (16 : Int32)), .unset] [(.int (16 : Int32))])) (fun _ k => XS.iloadN X0.here hx rfl (hb hby d11_0) rfl k) ?_
  refine Go.via (S' := s₁.setTop (mkF m 15 #[.val (.int (16 : Int32)), .unset] [])) (fun _ k => XS.ifYes X0.here hx rfl (pc0 := 1) (pc' := 15) rfl (hb hby d11_1) rfl ((if0 _ _).trans (tlt (by decide)).2.2.1) (by decide) (by decide) k) ?_
  refine Go.via (S' := s₁.setTop (mkF m 17 #[.val (.int (16 : Int32)), .unset] [(.int (31 : Int32))])) (fun _ k => XS.bipush X0.here hx rfl (hb hby d11_15) k) ?_
  refine Go.via (S' := s₁.setTop (mkF m 18 #[.val (.int (16 : Int32)), .val (.int (31 : Int32))] [])) (fun _ k => XS.istoreN X0.here hx rfl (hb hby d11_17) rfl (l' := #[.val (.int (16 : Int32)), .val (.int (31 : Int32))]) rfl k) ?_
  refine Go.via (S' := s₁.setTop (mkF m 19 #[.val (.int (16 : Int32)), .val (.int (31 : Int32))] [(.int (16 : Int32))])) (fun _ k => XS.iloadN X0.here hx rfl (hb hby d11_18) rfl k) ?_
  refine Go.via (S' := s₁.setTop (mkF m 22 #[.val (.int (16 : Int32)), .val (.int (31 : Int32))] [(.int (65536 : Int32)), (.int (16 : Int32))])) (fun _ k => X0.ldcwInt hx hown (mvT hZ (hw _ (List.mem_of_getElem? (i := 57) rfl))) (g := (mkF m 19 #[.val (.int (16 : Int32)), .val (.int (31 : Int32))] [(.int (16 : Int32))])) rfl (hb hby d11_19) _ k) ?_
  refine Go.via (S' := s₁.setTop (mkF m 33 #[.val (.int (16 : Int32)), .val (.int (31 : Int32))] [])) (fun _ k => XS.icmpYes X0.here hx rfl (pc0 := 22) (pc' := 33) rfl (hb hby d11_22) rfl (tlt (by decide)).1 (by decide) (by decide) k) ?_
  refine Go.via (S' := s₁.setTop (mkF m 34 #[.val (.int (16 : Int32)), .val (.int (31 : Int32))] [(.int (16 : Int32))])) (fun _ k => XS.iloadN X0.here hx rfl (hb hby d11_33) rfl k) ?_
  refine Go.via (S' := s₁.setTop (mkF m 37 #[.val (.int (16 : Int32)), .val (.int (31 : Int32))] [(.int (256 : Int32)), (.int (16 : Int32))])) (fun _ k => XS.sipush X0.here hx rfl (hb hby d11_34) k) ?_
  refine Go.via (S' := s₁.setTop (mkF m 48 #[.val (.int (16 : Int32)), .val (.int (31 : Int32))] [])) (fun _ k => XS.icmpYes X0.here hx rfl (pc0 := 37) (pc' := 48) rfl (hb hby d11_37) rfl (tlt (by decide)).1 (by decide) (by decide) k) ?_
  refine Go.via (S' := s₁.setTop (mkF m 49 #[.val (.int (16 : Int32)), .val (.int (31 : Int32))] [(.int (16 : Int32))])) (fun _ k => XS.iloadN X0.here hx rfl (hb hby d11_48) rfl k) ?_
  refine Go.via (S' := s₁.setTop (mkF m 51 #[.val (.int (16 : Int32)), .val (.int (31 : Int32))] [(.int (16 : Int32)), (.int (16 : Int32))])) (fun _ k => XS.bipush X0.here hx rfl (hb hby d11_49) k) ?_
  refine Go.via (S' := s₁.setTop (mkF m 54 #[.val (.int (16 : Int32)), .val (.int (31 : Int32))] [])) (fun _ k => XS.icmpNo X0.here hx rfl (hb hby d11_51) rfl (flt (by decide)).1 k) ?_
  refine Go.via (S' := s₁.setTop (mkF m 57 #[.val (.int (16 : Int32)), .val (.int ((31 : Int32) + (-4 : Int32)))] [])) (fun _ k => XS.iinc X0.here hx rfl (hb hby d11_54) rfl (l' := #[.val (.int (16 : Int32)), .val (.int ((31 : Int32) + (-4 : Int32)))]) rfl k) ?_
  refine Go.via (S' := s₁.setTop (mkF m 58 #[.val (.int (16 : Int32)), .val (.int ((31 : Int32) + (-4 : Int32)))] [(.int (16 : Int32))])) (fun _ k => XS.iloadN X0.here hx rfl (hb hby d11_57) rfl k) ?_
  refine Go.via (S' := s₁.setTop (mkF m 59 #[.val (.int (16 : Int32)), .val (.int ((31 : Int32) + (-4 : Int32)))] [(.int (4 : Int32)), (.int (16 : Int32))])) (fun _ k => XS.iconst X0.here hx rfl (hb hby d11_58) k) ?_
  refine Go.via (S' := s₁.setTop (mkF m 60 #[.val (.int (16 : Int32)), .val (.int ((31 : Int32) + (-4 : Int32)))] [(.int (((16 : Int32).toUInt32 >>> ((4 : Int32) &&& 31).toUInt32).toInt32))])) (fun _ k => XS.iushr X0.here hx rfl (hb hby d11_59) rfl k) ?_
  refine Go.via (S' := s₁.setTop (mkF m 61 #[.val (.int (((16 : Int32).toUInt32 >>> ((4 : Int32) &&& 31).toUInt32).toInt32)), .val (.int ((31 : Int32) + (-4 : Int32)))] [])) (fun _ k => XS.istoreN X0.here hx rfl (hb hby d11_60) rfl (l' := #[.val (.int (((16 : Int32).toUInt32 >>> ((4 : Int32) &&& 31).toUInt32).toInt32)), .val (.int ((31 : Int32) + (-4 : Int32)))]) rfl k) ?_
  refine Go.via (S' := s₁.setTop (mkF m 62 #[.val (.int (((16 : Int32).toUInt32 >>> ((4 : Int32) &&& 31).toUInt32).toInt32)), .val (.int ((31 : Int32) + (-4 : Int32)))] [(.int (((16 : Int32).toUInt32 >>> ((4 : Int32) &&& 31).toUInt32).toInt32))])) (fun _ k => XS.iloadN X0.here hx rfl (hb hby d11_61) rfl k) ?_
  refine Go.via (S' := s₁.setTop (mkF m 63 #[.val (.int (((16 : Int32).toUInt32 >>> ((4 : Int32) &&& 31).toUInt32).toInt32)), .val (.int ((31 : Int32) + (-4 : Int32)))] [(.int (4 : Int32)), (.int (((16 : Int32).toUInt32 >>> ((4 : Int32) &&& 31).toUInt32).toInt32))])) (fun _ k => XS.iconst X0.here hx rfl (hb hby d11_62) k) ?_
  refine Go.via (S' := s₁.setTop (mkF m 73 #[.val (.int (((16 : Int32).toUInt32 >>> ((4 : Int32) &&& 31).toUInt32).toInt32)), .val (.int ((31 : Int32) + (-4 : Int32)))] [])) (fun _ k => XS.icmpYes X0.here hx rfl (pc0 := 63) (pc' := 73) rfl (hb hby d11_63) rfl (tlt (by decide)).1 (by decide) (by decide) k) ?_
  refine Go.via (S' := s₁.setTop (mkF m 74 #[.val (.int (((16 : Int32).toUInt32 >>> ((4 : Int32) &&& 31).toUInt32).toInt32)), .val (.int ((31 : Int32) + (-4 : Int32)))] [(.int ((31 : Int32) + (-4 : Int32)))])) (fun _ k => XS.iloadN X0.here hx rfl (hb hby d11_73) rfl k) ?_
  refine Go.via (S' := s₁.setTop (mkF m 75 #[.val (.int (((16 : Int32).toUInt32 >>> ((4 : Int32) &&& 31).toUInt32).toInt32)), .val (.int ((31 : Int32) + (-4 : Int32)))] [(.int (((16 : Int32).toUInt32 >>> ((4 : Int32) &&& 31).toUInt32).toInt32)), (.int ((31 : Int32) + (-4 : Int32)))])) (fun _ k => XS.iloadN X0.here hx rfl (hb hby d11_74) rfl k) ?_
  refine Go.via (S' := s₁.setTop (mkF m 76 #[.val (.int (((16 : Int32).toUInt32 >>> ((4 : Int32) &&& 31).toUInt32).toInt32)), .val (.int ((31 : Int32) + (-4 : Int32)))] [(.int (1 : Int32)), (.int (((16 : Int32).toUInt32 >>> ((4 : Int32) &&& 31).toUInt32).toInt32)), (.int ((31 : Int32) + (-4 : Int32)))])) (fun _ k => XS.iconst X0.here hx rfl (hb hby d11_75) k) ?_
  refine Go.via (S' := s₁.setTop (mkF m 77 #[.val (.int (((16 : Int32).toUInt32 >>> ((4 : Int32) &&& 31).toUInt32).toInt32)), .val (.int ((31 : Int32) + (-4 : Int32)))] [(.int (((((16 : Int32).toUInt32 >>> ((4 : Int32) &&& 31).toUInt32).toInt32).toUInt32 >>> ((1 : Int32) &&& 31).toUInt32).toInt32)), (.int ((31 : Int32) + (-4 : Int32)))])) (fun _ k => XS.iushr X0.here hx rfl (hb hby d11_76) rfl k) ?_
  refine Go.via (S' := s₁.setTop (mkF m 78 #[.val (.int (((16 : Int32).toUInt32 >>> ((4 : Int32) &&& 31).toUInt32).toInt32)), .val (.int ((31 : Int32) + (-4 : Int32)))] [(.int (((31 : Int32) + (-4 : Int32)) - (((((16 : Int32).toUInt32 >>> ((4 : Int32) &&& 31).toUInt32).toInt32).toUInt32 >>> ((1 : Int32) &&& 31).toUInt32).toInt32)))])) (fun _ k => XS.isub X0.here hx rfl (hb hby d11_77) rfl k) ?_
  exact Go.retI X0 hx (BodyLoose.notSynchronized Bd) Bd.returns (hb hby d11_78) (by rw [e0]; exact ⟨congrArg (fun z => some (Value.int z)) (by decide), N0, rfl⟩) (by decide) (by decide)
theorem d10_0 : decode prog_26_method_11_code 0 = .ok (.iload_n 1, 1) := by decide +kernel
theorem d10_1 : decode prog_26_method_11_code 1 = .ok (.ldc 46, 2) := by decide +kernel
theorem d10_3 : decode prog_26_method_11_code 3 = .ok (.imul, 1) := by decide +kernel
theorem d10_4 : decode prog_26_method_11_code 4 = .ok (.aload_n 0, 1) := by decide +kernel
theorem d10_5 : decode prog_26_method_11_code 5 = .ok (.getfield 13, 3) := by decide +kernel
theorem d10_8 : decode prog_26_method_11_code 8 = .ok (.arraylength, 1) := by decide +kernel
theorem d10_9 : decode prog_26_method_11_code 9 = .ok (.invokestatic 47, 3) := by decide +kernel
theorem pd_2 : parseMethodDescriptor "(I)I" = some ⟨[.int], some .int⟩ := by decide +kernel
theorem d10_12 : decode prog_26_method_11_code 12 = .ok (.iconst 1, 1) := by decide +kernel
theorem d10_13 : decode prog_26_method_11_code 13 = .ok (.iadd, 1) := by decide +kernel
theorem d10_14 : decode prog_26_method_11_code 14 = .ok (.iushr, 1) := by decide +kernel
theorem d10_15 : decode prog_26_method_11_code 15 = .ok (.ireturn, 1) := by decide +kernel
theorem ef_10a (m : MethodId) (x0 : Addr) (x1 : Int32) : entryFrame m #[(.ref x0), (.int x1)] 2 = mkF m 0 #[.val (.ref x0), .val (.int x1)] [] := by first | (simp [entryFrame, mkF, argsToLocals, Value.category]; done) | rfl
def Q10a (Z : State) (a1 : Addr) (p2 : Int32) (sl : Addr) (f : Nat → Int32) (h0 : Heap) (n0 : Nat) (v : Option Value) (h : Heap) (L : List Loc) : Prop := ∃ j, j < 16 ∧ v = some (.int (Int32.ofNat j)) ∧ Fr n0 L ∧ h = h0
set_option maxRecDepth 65536 in
set_option maxHeartbeats 40000000 in
theorem rm10a (l : Launch) (Z : State) (a0 : Array Value) (hw : ∀ d ∈ tables_1, d.before a0 Z = true) (ws : List Jvm.Cond) (a1 : Addr) (p2 : Int32) (sl : Addr) (f : Nat → Int32) (h0 : Heap) (n0 : Nat) (Z0 : n0 ≤ h0.size) (Fsl : Fld Z h0 a1 "com/example/tidematch/tidematch/greedy/VertexTable" "mSlots" "[I" (.ref sl)) (Vsl : own_IA Z h0 sl 16 f) :
    MetFree l (⟨"com/example/tidematch/tidematch/greedy/VertexTable", "home", "(I)I"⟩ : MethodName) (head1 (Jvm.Cond.code (⟨"com/example/tidematch/tidematch/greedy/VertexTable", "home", "(I)I"⟩ : MethodName) prog_26_method_11_code 2 (some .int) :: ws) ({ frames := 1, cells := 0, slots := 0, locals := 14 } : Room)) (fun a U => a = #[(.ref a1), (.int p2)] ∧ Z.Warmed39 U.vm ∧ U.heap = h0) (fun _ _ _ _ _ => True) (fun _ U o U' => ∃ v L, o = .returned v ∧ Q10a Z a1 p2 sl f h0 n0 v U'.heap L ∧ FrameEnd U o U' L ({ frames := 1, cells := 0, slots := 0, locals := 14 } : Room).cells ({ frames := 1, cells := 0, slots := 0, locals := 14 } : Room).slots) := by
  refine MetFree.of_bodySF (plainFor_of_name pn_1) hisR ?_
  intro p e s m args below meth c s₁ Bd hml0 hP hK
  obtain ⟨rfl, hZ, hh⟩ := hP
  have hx := Bd.exec
  have hby := Bd.bytes
  have hml : c.maxLocals = 2 := hml0
  have hown : s.vm.findClass "com/example/tidematch/tidematch/greedy/VertexTable" = some m.cls := findClass_of_methodNamed Bd.named
  have hnm := (name_of_methodNamed Bd.named Bd.method).1
  have X0 : Stand p l e ({ frames := 1, cells := 0, slots := 0, locals := 14 } : Room) s m #[(.ref a1), (.int p2)] below meth c s₁ [] 0 0 := Stand.of_body Bd
  have e0 : s₁.heap = h0 := by rw [← hh, Bd.state]; rfl
  have N0 := Fr.nil n0
  show Go p e below s (Q10a Z a1 p2 sl f h0 n0) ({ frames := 1, cells := 0, slots := 0, locals := 14 } : Room).cells ({ frames := 1, cells := 0, slots := 0, locals := 14 } : Room).slots _
  refine Go.via (S' := s₁.setTop (mkF m 0 #[.val (.ref a1), .val (.int p2)] [])) (fun t k => castTop (ef_10a m a1 p2) k) ?_
  refine Go.via (S' := s₁.setTop (mkF m 1 #[.val (.ref a1), .val (.int p2)] [(.int p2)])) (fun _ k => XS.iloadN X0.here hx rfl (hb hby d10_0) rfl k) ?_
  refine Go.via (S' := s₁.setTop (mkF m 3 #[.val (.ref a1), .val (.int p2)] [(.int (-1640531527 : Int32)), (.int p2)])) (fun _ k => X0.ldcInt hx hown (mvT hZ (hw _ (List.mem_of_getElem? (i := 52) rfl))) (g := (mkF m 1 #[.val (.ref a1), .val (.int p2)] [(.int p2)])) rfl (hb hby d10_1) _ k) ?_
  refine Go.via (S' := s₁.setTop (mkF m 4 #[.val (.ref a1), .val (.int p2)] [(.int (p2 * (-1640531527 : Int32)))])) (fun _ k => XS.imul X0.here hx rfl (hb hby d10_3) rfl k) ?_
  refine Go.via (S' := s₁.setTop (mkF m 5 #[.val (.ref a1), .val (.int p2)] [(.ref a1), (.int (p2 * (-1640531527 : Int32)))])) (fun _ k => XS.aloadN X0.here hx rfl (hb hby d10_4) rfl rfl k) ?_
  obtain ⟨T1, X1, e1, st1⟩ := getF X0 hx hZ hown (host := "") (Or.inl (hw _ (List.mem_of_getElem? (i := 18) rfl))) Via.refl e0 Fsl (g := (mkF m 5 #[.val (.ref a1), .val (.int p2)] [(.ref a1), (.int (p2 * (-1640531527 : Int32)))])) rfl rfl (hb hby d10_5)
  refine Go.via (S' := T1.setTop (mkF m 8 #[.val (.ref a1), .val (.int p2)] [(.ref sl), (.int (p2 * (-1640531527 : Int32)))])) (fun _ k => st1 _ k) ?_
  obtain ⟨c2, Ar2, S2, -⟩ := id Vsl
  refine Go.via (S' := T1.setTop (mkF m 9 #[.val (.ref a1), .val (.int p2)] [(.int c2.slots.size.toInt32), (.int (p2 * (-1640531527 : Int32)))])) (fun _ k => X1.arraylength hx (by rw [e1]; exact Ar2.1) (State.isArrayOf_alike hZ.alike Ar2.2.1) (g := (mkF m 8 #[.val (.ref a1), .val (.int p2)] [(.ref sl), (.int (p2 * (-1640531527 : Int32)))])) rfl rfl (hb hby d10_8) _ k) ?_
  rw [S2]
  show Go p e below s (Q10a Z a1 p2 sl f h0 n0) ({ frames := 1, cells := 0, slots := 0, locals := 14 } : Room).cells ({ frames := 1, cells := 0, slots := 0, locals := 14 } : Room).slots (T1.setTop (mkF m 9 #[.val (.ref a1), .val (.int p2)] [(.int (16 : Int32)), (.int (p2 * (-1640531527 : Int32)))]))
  obtain ⟨_, _, ⟨T3, L3, k3, n3⟩, -, X3, ⟨Lc3, hQ3, l3, y3, z3⟩, st3⟩ := Jvm.LawKit.callS X1 hx (y := (⟨"java/lang/Integer", "numberOfLeadingZeros", "(I)I"⟩ : MethodName)) hown (mvT hZ (hw _ (List.mem_of_getElem? (i := 53) rfl))) (mvT hZ (hw _ (List.mem_of_getElem? (i := 54) rfl))) (mvT hZ (hw _ (List.mem_of_getElem? (i := 55) rfl))) (mvT hZ (hw _ (List.mem_of_getElem? (i := 56) rfl))) (by decide) (backOf (W := 1) (rm11a l Z a0 hw [] (16 : Int32) h0 n0 Z0 rfl) hZ (hw _ (List.mem_of_getElem? (i := 56) rfl)) (hw _ (List.mem_of_getElem? (i := 55) rfl)) (by decide) (by decide)) (g := (mkF m 9 #[.val (.ref a1), .val (.int p2)] [(.int (16 : Int32)), (.int (p2 * (-1640531527 : Int32)))])) rfl (by rw [hml]; rfl) (argsL := [(.int (16 : Int32))]) (rest := [(.int (p2 * (-1640531527 : Int32)))]) (lenOf pd_2 rfl) rfl (by show 2 * 0 + _ ≤ _; exact Nat.le_of_eq rfl) (hb hby d10_9) (fun _ _ => ⟨rfl, e1, (by decide : 0 + 0 ≤ _), (by decide : 0 + 0 ≤ _)⟩)
  dsimp only [Pt.U, Pt.locs, Pt.cells, Pt.slots] at X3 l3 y3 z3 st3 hQ3
  subst l3 y3 z3
  obtain ⟨rfl, N3q, e3⟩ := hQ3
  have N4 := Fr.app N0 N3q
  refine Go.via (S' := T3.setTop (mkF m 12 #[.val (.ref a1), .val (.int p2)] [(.int (27 : Int32)), (.int (p2 * (-1640531527 : Int32)))])) (fun _ k => st3 _ k) ?_
  refine Go.via (S' := T3.setTop (mkF m 13 #[.val (.ref a1), .val (.int p2)] [(.int (1 : Int32)), (.int (27 : Int32)), (.int (p2 * (-1640531527 : Int32)))])) (fun _ k => XS.iconst X3.here hx rfl (hb hby d10_12) k) ?_
  refine Go.via (S' := T3.setTop (mkF m 14 #[.val (.ref a1), .val (.int p2)] [(.int ((27 : Int32) + (1 : Int32))), (.int (p2 * (-1640531527 : Int32)))])) (fun _ k => XS.iadd X3.here hx rfl (hb hby d10_13) rfl k) ?_
  refine Go.via (S' := T3.setTop (mkF m 15 #[.val (.ref a1), .val (.int p2)] [(.int (((p2 * (-1640531527 : Int32)).toUInt32 >>> (((27 : Int32) + (1 : Int32)) &&& 31).toUInt32).toInt32))])) (fun _ k => XS.iushr X3.here hx rfl (hb hby d10_14) rfl k) ?_
  exact Go.retI X3 hx (BodyLoose.notSynchronized Bd) Bd.returns (hb hby d10_15) (by rw [e3]; exact (by obtain ⟨j, hj, ej⟩ := own_home16 (p2 * (-1640531527 : Int32)); exact ⟨j, hj, congrArg (fun z => some (Value.int z)) ej, N4, rfl⟩)) (by decide) (by decide)
theorem d9_0 : decode prog_26_method_12_code 0 = .ok (.aload_n 0, 1) := by decide +kernel
theorem d9_1 : decode prog_26_method_12_code 1 = .ok (.getfield 13, 3) := by decide +kernel
theorem d9_4 : decode prog_26_method_12_code 4 = .ok (.arraylength, 1) := by decide +kernel
theorem d9_5 : decode prog_26_method_12_code 5 = .ok (.iconst 1, 1) := by decide +kernel
theorem d9_6 : decode prog_26_method_12_code 6 = .ok (.isub, 1) := by decide +kernel
theorem d9_7 : decode prog_26_method_12_code 7 = .ok (.istore_n 2, 1) := by decide +kernel
theorem d9_8 : decode prog_26_method_12_code 8 = .ok (.aload_n 0, 1) := by decide +kernel
theorem d9_9 : decode prog_26_method_12_code 9 = .ok (.iload_n 1, 1) := by decide +kernel
theorem d9_10 : decode prog_26_method_12_code 10 = .ok (.invokevirtual 20, 3) := by decide +kernel
theorem d9_13 : decode prog_26_method_12_code 13 = .ok (.istore_n 3, 1) := by decide +kernel
theorem d9_14 : decode prog_26_method_12_code 14 = .ok (.aload_n 0, 1) := by decide +kernel
theorem d9_15 : decode prog_26_method_12_code 15 = .ok (.getfield 13, 3) := by decide +kernel
theorem d9_18 : decode prog_26_method_12_code 18 = .ok (.iload_n 3, 1) := by decide +kernel
theorem d9_19 : decode prog_26_method_12_code 19 = .ok (.iaload, 1) := by decide +kernel
theorem d9_20 : decode prog_26_method_12_code 20 = .ok (.iconst (-1), 1) := by decide +kernel
theorem d9_21 : decode prog_26_method_12_code 21 = .ok (.if_icmp .eq 12, 3) := by decide +kernel
theorem d9_33 : decode prog_26_method_12_code 33 = .ok (.aload_n 0, 1) := by decide +kernel
theorem d9_34 : decode prog_26_method_12_code 34 = .ok (.getfield 13, 3) := by decide +kernel
theorem d9_37 : decode prog_26_method_12_code 37 = .ok (.iload_n 3, 1) := by decide +kernel
theorem d9_38 : decode prog_26_method_12_code 38 = .ok (.iload_n 1, 1) := by decide +kernel
theorem d9_39 : decode prog_26_method_12_code 39 = .ok (.iastore, 1) := by decide +kernel
theorem d9_40 : decode prog_26_method_12_code 40 = .ok (.iload_n 3, 1) := by decide +kernel
theorem d9_41 : decode prog_26_method_12_code 41 = .ok (.ireturn, 1) := by decide +kernel
theorem d9_24 : decode prog_26_method_12_code 24 = .ok (.iload_n 3, 1) := by decide +kernel
theorem d9_25 : decode prog_26_method_12_code 25 = .ok (.iconst 1, 1) := by decide +kernel
theorem d9_26 : decode prog_26_method_12_code 26 = .ok (.iadd, 1) := by decide +kernel
theorem d9_27 : decode prog_26_method_12_code 27 = .ok (.iload_n 2, 1) := by decide +kernel
theorem d9_28 : decode prog_26_method_12_code 28 = .ok (.iand, 1) := by decide +kernel
theorem d9_29 : decode prog_26_method_12_code 29 = .ok (.istore_n 3, 1) := by decide +kernel
theorem d9_30 : decode prog_26_method_12_code 30 = .ok (.goto (-16), 3) := by decide +kernel
theorem ef_9a (m : MethodId) (x0 : Addr) (x1 : Int32) : entryFrame m #[(.ref x0), (.int x1)] 4 = mkF m 0 #[.val (.ref x0), .val (.int x1), .unset, .unset] [] := by first | (simp [entryFrame, mkF, argsToLocals, Value.category]; done) | rfl
def Q9a (Z : State) (a1 : Addr) (p2 : Int32) (sl : Addr) (f : Nat → Int32) (j0 : Nat) (h0 : Heap) (n0 : Nat) (v : Option Value) (h : Heap) (L : List Loc) : Prop := ∃ j, j < 16 ∧ f j = -1 ∧ v = some (.int (Int32.ofNat j)) ∧ Fr n0 L ∧ Keep h0 h [sl] ∧ own_IA Z h sl 16 (fun i_ => if i_ = j then p2 else f i_)
set_option maxRecDepth 65536 in
set_option maxHeartbeats 40000000 in
theorem rm9a (l : Launch) (Z : State) (a0 : Array Value) (hw : ∀ d ∈ tables_1, d.before a0 Z = true) (ws : List Jvm.Cond) (a1 : Addr) (p2 : Int32) (sl : Addr) (f : Nat → Int32) (j0 : Nat) (h0 : Heap) (n0 : Nat) (Z0 : n0 ≤ h0.size) (Et : Exa Z h0 a1 "com/example/tidematch/tidematch/greedy/VertexTable") (Fsl : Fld Z h0 a1 "com/example/tidematch/tidematch/greedy/VertexTable" "mSlots" "[I" (.ref sl)) (Vsl : own_IA Z h0 sl 16 f) (gsl : n0 ≤ sl) (nesl : sl ≠ a1) (hj0 : j0 < 16) (hf0 : f j0 = -1) :
    MetFree l (⟨"com/example/tidematch/tidematch/greedy/VertexTable", "place", "(I)I"⟩ : MethodName) (head1 (Jvm.Cond.code (⟨"com/example/tidematch/tidematch/greedy/VertexTable", "place", "(I)I"⟩ : MethodName) prog_26_method_12_code 4 (some .int) :: ws) ({ frames := 2, cells := 0, slots := 0, locals := 27 } : Room)) (fun a U => a = #[(.ref a1), (.int p2)] ∧ Z.Warmed39 U.vm ∧ U.heap = h0) (fun _ _ _ _ _ => True) (fun _ U o U' => ∃ v L, o = .returned v ∧ Q9a Z a1 p2 sl f j0 h0 n0 v U'.heap L ∧ FrameEnd U o U' L ({ frames := 2, cells := 0, slots := 0, locals := 27 } : Room).cells ({ frames := 2, cells := 0, slots := 0, locals := 27 } : Room).slots) := by
  refine MetFree.of_bodySF (plainFor_of_name pn_1) hisR ?_
  intro p e s m args below meth c s₁ Bd hml0 hP hK
  obtain ⟨rfl, hZ, hh⟩ := hP
  have hx := Bd.exec
  have hby := Bd.bytes
  have hml : c.maxLocals = 4 := hml0
  have hown : s.vm.findClass "com/example/tidematch/tidematch/greedy/VertexTable" = some m.cls := findClass_of_methodNamed Bd.named
  have hnm := (name_of_methodNamed Bd.named Bd.method).1
  have X0 : Stand p l e ({ frames := 2, cells := 0, slots := 0, locals := 27 } : Room) s m #[(.ref a1), (.int p2)] below meth c s₁ [] 0 0 := Stand.of_body Bd
  have e0 : s₁.heap = h0 := by rw [← hh, Bd.state]; rfl
  have N0 := Fr.nil n0
  show Go p e below s (Q9a Z a1 p2 sl f j0 h0 n0) ({ frames := 2, cells := 0, slots := 0, locals := 27 } : Room).cells ({ frames := 2, cells := 0, slots := 0, locals := 27 } : Room).slots _
  refine Go.via (S' := s₁.setTop (mkF m 0 #[.val (.ref a1), .val (.int p2), .unset, .unset] [])) (fun t k => castTop (ef_9a m a1 p2) k) ?_
  refine Go.via (S' := s₁.setTop (mkF m 1 #[.val (.ref a1), .val (.int p2), .unset, .unset] [(.ref a1)])) (fun _ k => XS.aloadN X0.here hx rfl (hb hby d9_0) rfl rfl k) ?_
  obtain ⟨T1, X1, e1, st1⟩ := getF X0 hx hZ hown (host := "") (Or.inl (hw _ (List.mem_of_getElem? (i := 18) rfl))) Via.refl e0 Fsl (g := (mkF m 1 #[.val (.ref a1), .val (.int p2), .unset, .unset] [(.ref a1)])) rfl rfl (hb hby d9_1)
  refine Go.via (S' := T1.setTop (mkF m 4 #[.val (.ref a1), .val (.int p2), .unset, .unset] [(.ref sl)])) (fun _ k => st1 _ k) ?_
  obtain ⟨c2, Ar2, S2, -⟩ := id Vsl
  refine Go.via (S' := T1.setTop (mkF m 5 #[.val (.ref a1), .val (.int p2), .unset, .unset] [(.int c2.slots.size.toInt32)])) (fun _ k => X1.arraylength hx (by rw [e1]; exact Ar2.1) (State.isArrayOf_alike hZ.alike Ar2.2.1) (g := (mkF m 4 #[.val (.ref a1), .val (.int p2), .unset, .unset] [(.ref sl)])) rfl rfl (hb hby d9_4) _ k) ?_
  rw [S2]
  show Go p e below s (Q9a Z a1 p2 sl f j0 h0 n0) ({ frames := 2, cells := 0, slots := 0, locals := 27 } : Room).cells ({ frames := 2, cells := 0, slots := 0, locals := 27 } : Room).slots (T1.setTop (mkF m 5 #[.val (.ref a1), .val (.int p2), .unset, .unset] [(.int (16 : Int32))]))
  refine Go.via (S' := T1.setTop (mkF m 6 #[.val (.ref a1), .val (.int p2), .unset, .unset] [(.int (1 : Int32)), (.int (16 : Int32))])) (fun _ k => XS.iconst X1.here hx rfl (hb hby d9_5) k) ?_
  refine Go.via (S' := T1.setTop (mkF m 7 #[.val (.ref a1), .val (.int p2), .unset, .unset] [(.int ((16 : Int32) - (1 : Int32)))])) (fun _ k => XS.isub X1.here hx rfl (hb hby d9_6) rfl k) ?_
  refine Go.via (S' := T1.setTop (mkF m 8 #[.val (.ref a1), .val (.int p2), .val (.int ((16 : Int32) - (1 : Int32))), .unset] [])) (fun _ k => XS.istoreN X1.here hx rfl (hb hby d9_7) rfl (l' := #[.val (.ref a1), .val (.int p2), .val (.int ((16 : Int32) - (1 : Int32))), .unset]) rfl k) ?_
  refine Go.via (S' := T1.setTop (mkF m 9 #[.val (.ref a1), .val (.int p2), .val (.int ((16 : Int32) - (1 : Int32))), .unset] [(.ref a1)])) (fun _ k => XS.aloadN X1.here hx rfl (hb hby d9_8) rfl rfl k) ?_
  refine Go.via (S' := T1.setTop (mkF m 10 #[.val (.ref a1), .val (.int p2), .val (.int ((16 : Int32) - (1 : Int32))), .unset] [(.int p2), (.ref a1)])) (fun _ k => XS.iloadN X1.here hx rfl (hb hby d9_9) rfl k) ?_
  obtain ⟨cq3, q3, q3'⟩ := Et.cell
  obtain ⟨_, _, ⟨T3, L3, k3, n3⟩, -, X3, ⟨Lc3, hQ3, l3, y3, z3⟩, st3⟩ := X1.privateBack hx (y := (⟨"com/example/tidematch/tidematch/greedy/VertexTable", "home", "(I)I"⟩ : MethodName)) hown (mvT hZ (hw _ (List.mem_of_getElem? (i := 48) rfl))) (mvT hZ (hw _ (List.mem_of_getElem? (i := 49) rfl))) (own_sel (mvT hZ (hw _ (List.mem_of_getElem? (i := 2) rfl))) (Cond.privateMethod_at (mvP hZ (hw _ (List.mem_of_getElem? (i := 50) rfl)) (args := #[]))) (mvT hZ (hw _ (List.mem_of_getElem? (i := 49) rfl))) (by decide)) (Cond.privateMethod_at (mvP hZ (hw _ (List.mem_of_getElem? (i := 50) rfl)) (args := #[]))) (mvT hZ (hw _ (List.mem_of_getElem? (i := 51) rfl))) (by decide) (backOf (W := 0) (rm10a l Z a0 hw [] a1 p2 sl f h0 n0 Z0 Fsl Vsl) hZ (hw _ (List.mem_of_getElem? (i := 51) rfl)) (hw _ (List.mem_of_getElem? (i := 3) rfl)) (by decide) (by decide)) (g := (mkF m 10 #[.val (.ref a1), .val (.int p2), .val (.int ((16 : Int32) - (1 : Int32))), .unset] [(.int p2), (.ref a1)])) rfl (by rw [hml]; rfl) (Steps.refl _) (a := a1) (by rw [e1]; exact q3) q3' (argsL := [(.int p2)]) (rest := []) (lenOf pd_2 rfl) rfl (by show 2 * 0 + _ ≤ _; exact Nat.le_of_eq rfl) (hb hby d9_10) (fun _ _ => ⟨rfl, e1, (by decide : 0 + 0 ≤ _), (by decide : 0 + 0 ≤ _)⟩)
  dsimp only [Pt.U, Pt.locs, Pt.cells, Pt.slots] at X3 l3 y3 z3 st3 hQ3
  subst l3 y3 z3
  obtain ⟨jh3, hjh3, rfl, N3q, e3⟩ := hQ3
  have N4 := Fr.app N0 N3q
  refine Go.via (S' := T3.setTop (mkF m 13 #[.val (.ref a1), .val (.int p2), .val (.int ((16 : Int32) - (1 : Int32))), .unset] [(.int (Int32.ofNat jh3))])) (fun _ k => st3.trans k) ?_
  refine Go.via (S' := T3.setTop (mkF m 14 #[.val (.ref a1), .val (.int p2), .val (.int ((16 : Int32) - (1 : Int32))), .val (.int (Int32.ofNat jh3))] [])) (fun _ k => XS.istoreN X3.here hx rfl (hb hby d9_13) rfl (l' := #[.val (.ref a1), .val (.int p2), .val (.int ((16 : Int32) - (1 : Int32))), .val (.int (Int32.ofNat jh3))]) rfl k) ?_
  suffices LP : ∀ (k : Nat) (T5 : State) (h5 : Heap) (lo5 : List Loc) (i : Nat) (X5 : Stand p l e ({ frames := 2, cells := 0, slots := 0, locals := 27 } : Room) s m #[(.ref a1), (.int p2)] below meth c T5 lo5 0 0) (e5 : T5.heap = h5) (N5 : Fr n0 lo5) (z5 : n0 ≤ h5.size) (K5 : Keep h0 h5 [sl]) (fk5_0 : Exa Z h5 a1 "com/example/tidematch/tidematch/greedy/VertexTable") (fk5_1 : Fld Z h5 a1 "com/example/tidematch/tidematch/greedy/VertexTable" "mSlots" "[I" (.ref sl)) (fk5_2 : own_IA Z h5 sl 16 f) (hi : i < 16) (hk : (i + k) % 16 = j0), Go p e below s (Q9a Z a1 p2 sl f j0 h0 n0) ({ frames := 2, cells := 0, slots := 0, locals := 27 } : Room).cells ({ frames := 2, cells := 0, slots := 0, locals := 27 } : Room).slots (T5.setTop (mkF m 14 #[.val (.ref a1), .val (.int p2), .val (.int ((16 : Int32) - (1 : Int32))), .val (.int (Int32.ofNat i))] [])) by
    exact LP ((j0 + 16 - jh3) % 16) T3 h0 _ jh3 (X3.more (by decide) (by decide)) e3 N4 Z0 (Keep.refl h0 [sl]) Et Fsl Vsl hjh3 (by omega)
  intro k
  induction k with
  | zero =>
    intro T5 h5 lo5 i X5 e5 N5 z5 K5 fk5_0 fk5_1 fk5_2 hi hk
    refine Go.via (S' := T5.setTop (mkF m 15 #[.val (.ref a1), .val (.int p2), .val (.int ((16 : Int32) - (1 : Int32))), .val (.int (Int32.ofNat i))] [(.ref a1)])) (fun _ k => XS.aloadN X5.here hx rfl (hb hby d9_14) rfl rfl k) ?_
    obtain ⟨T6, X6, e6, st6⟩ := getF X5 hx hZ hown (host := "") (Or.inl (hw _ (List.mem_of_getElem? (i := 18) rfl))) Via.refl e5 fk5_1 (g := (mkF m 15 #[.val (.ref a1), .val (.int p2), .val (.int ((16 : Int32) - (1 : Int32))), .val (.int (Int32.ofNat i))] [(.ref a1)])) rfl rfl (hb hby d9_15)
    refine Go.via (S' := T6.setTop (mkF m 18 #[.val (.ref a1), .val (.int p2), .val (.int ((16 : Int32) - (1 : Int32))), .val (.int (Int32.ofNat i))] [(.ref sl)])) (fun _ k => st6 _ k) ?_
    refine Go.via (S' := T6.setTop (mkF m 19 #[.val (.ref a1), .val (.int p2), .val (.int ((16 : Int32) - (1 : Int32))), .val (.int (Int32.ofNat i))] [(.int (Int32.ofNat i)), (.ref sl)])) (fun _ k => XS.iloadN X6.here hx rfl (hb hby d9_18) rfl k) ?_
    obtain ⟨c7, Ar7, S7, H7⟩ := id fk5_2
    have in7 : ¬ ((Int32.ofNat i) < 0 ∨ c7.slots.size ≤ ((Int32.ofNat i)).toNatClampNeg) := by
      rw [S7, own_ncl (show i < 2 ^ 31 by omega)]
      exact fun q => q.elim (own_nn (show i < 2 ^ 31 by omega)) (Nat.not_le.mpr hi)
    refine Go.via (S' := T6.setTop (mkF m 20 #[.val (.ref a1), .val (.int p2), .val (.int ((16 : Int32) - (1 : Int32))), .val (.int (Int32.ofNat i))] [(.int (f i))])) (fun _ k => X6.iaload hx (j := (Int32.ofNat i)) (v := .int (f i)) (by rw [e6]; exact Ar7.1) (State.isArrayOf_alike hZ.alike Ar7.2.1) Ar7.2.2 in7 (by rw [own_ncl (show i < 2 ^ 31 by omega)]; exact H7 _ hi) (g := (mkF m 19 #[.val (.ref a1), .val (.int p2), .val (.int ((16 : Int32) - (1 : Int32))), .val (.int (Int32.ofNat i))] [(.int (Int32.ofNat i)), (.ref sl)])) rfl rfl (hb hby d9_19) _ k) ?_
    refine Go.via (S' := T6.setTop (mkF m 21 #[.val (.ref a1), .val (.int p2), .val (.int ((16 : Int32) - (1 : Int32))), .val (.int (Int32.ofNat i))] [(.int (-1 : Int32)), (.int (f i))])) (fun _ k => XS.iconst X6.here hx rfl (hb hby d9_20) k) ?_
    refine Go.via (S' := T6.setTop (mkF m 33 #[.val (.ref a1), .val (.int p2), .val (.int ((16 : Int32) - (1 : Int32))), .val (.int (Int32.ofNat i))] [])) (fun _ k => XS.icmpYes X6.here hx rfl (pc0 := 21) (pc' := 33) rfl (hb hby d9_21) rfl (teq (show f i = -1 by rw [show i = j0 by omega]; exact hf0)).1 (by decide) (by decide) k) ?_
    refine Go.via (S' := T6.setTop (mkF m 34 #[.val (.ref a1), .val (.int p2), .val (.int ((16 : Int32) - (1 : Int32))), .val (.int (Int32.ofNat i))] [(.ref a1)])) (fun _ k => XS.aloadN X6.here hx rfl (hb hby d9_33) rfl rfl k) ?_
    obtain ⟨T8, X8, e8, st8⟩ := getF X6 hx hZ hown (host := "") (Or.inl (hw _ (List.mem_of_getElem? (i := 18) rfl))) Via.refl e6 fk5_1 (g := (mkF m 34 #[.val (.ref a1), .val (.int p2), .val (.int ((16 : Int32) - (1 : Int32))), .val (.int (Int32.ofNat i))] [(.ref a1)])) rfl rfl (hb hby d9_34)
    refine Go.via (S' := T8.setTop (mkF m 37 #[.val (.ref a1), .val (.int p2), .val (.int ((16 : Int32) - (1 : Int32))), .val (.int (Int32.ofNat i))] [(.ref sl)])) (fun _ k => st8 _ k) ?_
    refine Go.via (S' := T8.setTop (mkF m 38 #[.val (.ref a1), .val (.int p2), .val (.int ((16 : Int32) - (1 : Int32))), .val (.int (Int32.ofNat i))] [(.int (Int32.ofNat i)), (.ref sl)])) (fun _ k => XS.iloadN X8.here hx rfl (hb hby d9_37) rfl k) ?_
    refine Go.via (S' := T8.setTop (mkF m 39 #[.val (.ref a1), .val (.int p2), .val (.int ((16 : Int32) - (1 : Int32))), .val (.int (Int32.ofNat i))] [(.int p2), (.int (Int32.ofNat i)), (.ref sl)])) (fun _ k => XS.iloadN X8.here hx rfl (hb hby d9_38) rfl k) ?_
    obtain ⟨c9, Ar9, S9, H9⟩ := id fk5_2
    have in9 : ¬ ((Int32.ofNat i) < 0 ∨ c9.slots.size ≤ ((Int32.ofNat i)).toNatClampNeg) := by
      rw [S9, own_ncl (show i < 2 ^ 31 by omega)]
      exact fun q => q.elim (own_nn (show i < 2 ^ 31 by omega)) (Nat.not_le.mpr hi)
    obtain ⟨T9, h9, X9, e9, W9, st9⟩ := stI X8 hx hZ e8 Ar9 (j := (Int32.ofNat i)) in9 (g := (mkF m 39 #[.val (.ref a1), .val (.int p2), .val (.int ((16 : Int32) - (1 : Int32))), .val (.int (Int32.ofNat i))] [(.int p2), (.int (Int32.ofNat i)), (.ref sl)])) rfl rfl (hb hby d9_39)
    have N10 := Fr.snoc X9 N5 gsl
    have Wn9 := W9
    rw [own_ncl (show i < 2 ^ 31 by omega)] at Wn9
    have V9 := own_IA.set Ar9 S9 H9 Wn9 hi
    have f11 := fk5_0.wr W9
    have f12 := fk5_1.other W9 (Or.inl (Ne.symm nesl))
    have z13 := Nat.le_trans z5 (Keep.of_wr W9).1
    have K14 := K5.wr W9 (Or.inl (List.mem_of_getElem? (i := 0) rfl))
    refine Go.via (S' := T9.setTop (mkF m 40 #[.val (.ref a1), .val (.int p2), .val (.int ((16 : Int32) - (1 : Int32))), .val (.int (Int32.ofNat i))] [])) (fun _ k => st9 _ k) ?_
    refine Go.via (S' := T9.setTop (mkF m 41 #[.val (.ref a1), .val (.int p2), .val (.int ((16 : Int32) - (1 : Int32))), .val (.int (Int32.ofNat i))] [(.int (Int32.ofNat i))])) (fun _ k => XS.iloadN X9.here hx rfl (hb hby d9_40) rfl k) ?_
    exact Go.retI X9 hx (BodyLoose.notSynchronized Bd) Bd.returns (hb hby d9_41) (by rw [e9]; exact ⟨_, hi, (by rw [show i = j0 by omega]; exact hf0), rfl, N10, K14, V9⟩) (by decide) (by decide)
  | succ k ih =>
    intro T5 h5 lo5 i X5 e5 N5 z5 K5 fk5_0 fk5_1 fk5_2 hi hk
    refine Go.via (S' := T5.setTop (mkF m 15 #[.val (.ref a1), .val (.int p2), .val (.int ((16 : Int32) - (1 : Int32))), .val (.int (Int32.ofNat i))] [(.ref a1)])) (fun _ k => XS.aloadN X5.here hx rfl (hb hby d9_14) rfl rfl k) ?_
    obtain ⟨T15, X15, e15, st15⟩ := getF X5 hx hZ hown (host := "") (Or.inl (hw _ (List.mem_of_getElem? (i := 18) rfl))) Via.refl e5 fk5_1 (g := (mkF m 15 #[.val (.ref a1), .val (.int p2), .val (.int ((16 : Int32) - (1 : Int32))), .val (.int (Int32.ofNat i))] [(.ref a1)])) rfl rfl (hb hby d9_15)
    refine Go.via (S' := T15.setTop (mkF m 18 #[.val (.ref a1), .val (.int p2), .val (.int ((16 : Int32) - (1 : Int32))), .val (.int (Int32.ofNat i))] [(.ref sl)])) (fun _ k => st15 _ k) ?_
    refine Go.via (S' := T15.setTop (mkF m 19 #[.val (.ref a1), .val (.int p2), .val (.int ((16 : Int32) - (1 : Int32))), .val (.int (Int32.ofNat i))] [(.int (Int32.ofNat i)), (.ref sl)])) (fun _ k => XS.iloadN X15.here hx rfl (hb hby d9_18) rfl k) ?_
    obtain ⟨c16, Ar16, S16, H16⟩ := id fk5_2
    have in16 : ¬ ((Int32.ofNat i) < 0 ∨ c16.slots.size ≤ ((Int32.ofNat i)).toNatClampNeg) := by
      rw [S16, own_ncl (show i < 2 ^ 31 by omega)]
      exact fun q => q.elim (own_nn (show i < 2 ^ 31 by omega)) (Nat.not_le.mpr hi)
    refine Go.via (S' := T15.setTop (mkF m 20 #[.val (.ref a1), .val (.int p2), .val (.int ((16 : Int32) - (1 : Int32))), .val (.int (Int32.ofNat i))] [(.int (f i))])) (fun _ k => X15.iaload hx (j := (Int32.ofNat i)) (v := .int (f i)) (by rw [e15]; exact Ar16.1) (State.isArrayOf_alike hZ.alike Ar16.2.1) Ar16.2.2 in16 (by rw [own_ncl (show i < 2 ^ 31 by omega)]; exact H16 _ hi) (g := (mkF m 19 #[.val (.ref a1), .val (.int p2), .val (.int ((16 : Int32) - (1 : Int32))), .val (.int (Int32.ofNat i))] [(.int (Int32.ofNat i)), (.ref sl)])) rfl rfl (hb hby d9_19) _ k) ?_
    refine Go.via (S' := T15.setTop (mkF m 21 #[.val (.ref a1), .val (.int p2), .val (.int ((16 : Int32) - (1 : Int32))), .val (.int (Int32.ofNat i))] [(.int (-1 : Int32)), (.int (f i))])) (fun _ k => XS.iconst X15.here hx rfl (hb hby d9_20) k) ?_
    rcases Decidable.em ((f i) = (-1 : Int32)) with hc21 | hc21
    · refine Go.via (S' := T15.setTop (mkF m 33 #[.val (.ref a1), .val (.int p2), .val (.int ((16 : Int32) - (1 : Int32))), .val (.int (Int32.ofNat i))] [])) (fun _ k => XS.icmpYes X15.here hx rfl (pc0 := 21) (pc' := 33) rfl (hb hby d9_21) rfl (teq hc21).1 (by decide) (by decide) k) ?_
      refine Go.via (S' := T15.setTop (mkF m 34 #[.val (.ref a1), .val (.int p2), .val (.int ((16 : Int32) - (1 : Int32))), .val (.int (Int32.ofNat i))] [(.ref a1)])) (fun _ k => XS.aloadN X15.here hx rfl (hb hby d9_33) rfl rfl k) ?_
      obtain ⟨T17, X17, e17, st17⟩ := getF X15 hx hZ hown (host := "") (Or.inl (hw _ (List.mem_of_getElem? (i := 18) rfl))) Via.refl e15 fk5_1 (g := (mkF m 34 #[.val (.ref a1), .val (.int p2), .val (.int ((16 : Int32) - (1 : Int32))), .val (.int (Int32.ofNat i))] [(.ref a1)])) rfl rfl (hb hby d9_34)
      refine Go.via (S' := T17.setTop (mkF m 37 #[.val (.ref a1), .val (.int p2), .val (.int ((16 : Int32) - (1 : Int32))), .val (.int (Int32.ofNat i))] [(.ref sl)])) (fun _ k => st17 _ k) ?_
      refine Go.via (S' := T17.setTop (mkF m 38 #[.val (.ref a1), .val (.int p2), .val (.int ((16 : Int32) - (1 : Int32))), .val (.int (Int32.ofNat i))] [(.int (Int32.ofNat i)), (.ref sl)])) (fun _ k => XS.iloadN X17.here hx rfl (hb hby d9_37) rfl k) ?_
      refine Go.via (S' := T17.setTop (mkF m 39 #[.val (.ref a1), .val (.int p2), .val (.int ((16 : Int32) - (1 : Int32))), .val (.int (Int32.ofNat i))] [(.int p2), (.int (Int32.ofNat i)), (.ref sl)])) (fun _ k => XS.iloadN X17.here hx rfl (hb hby d9_38) rfl k) ?_
      obtain ⟨c18, Ar18, S18, H18⟩ := id fk5_2
      have in18 : ¬ ((Int32.ofNat i) < 0 ∨ c18.slots.size ≤ ((Int32.ofNat i)).toNatClampNeg) := by
        rw [S18, own_ncl (show i < 2 ^ 31 by omega)]
        exact fun q => q.elim (own_nn (show i < 2 ^ 31 by omega)) (Nat.not_le.mpr hi)
      obtain ⟨T18, h18, X18, e18, W18, st18⟩ := stI X17 hx hZ e17 Ar18 (j := (Int32.ofNat i)) in18 (g := (mkF m 39 #[.val (.ref a1), .val (.int p2), .val (.int ((16 : Int32) - (1 : Int32))), .val (.int (Int32.ofNat i))] [(.int p2), (.int (Int32.ofNat i)), (.ref sl)])) rfl rfl (hb hby d9_39)
      have N19 := Fr.snoc X18 N5 gsl
      have Wn18 := W18
      rw [own_ncl (show i < 2 ^ 31 by omega)] at Wn18
      have V18 := own_IA.set Ar18 S18 H18 Wn18 hi
      have f20 := fk5_0.wr W18
      have f21 := fk5_1.other W18 (Or.inl (Ne.symm nesl))
      have z22 := Nat.le_trans z5 (Keep.of_wr W18).1
      have K23 := K5.wr W18 (Or.inl (List.mem_of_getElem? (i := 0) rfl))
      refine Go.via (S' := T18.setTop (mkF m 40 #[.val (.ref a1), .val (.int p2), .val (.int ((16 : Int32) - (1 : Int32))), .val (.int (Int32.ofNat i))] [])) (fun _ k => st18 _ k) ?_
      refine Go.via (S' := T18.setTop (mkF m 41 #[.val (.ref a1), .val (.int p2), .val (.int ((16 : Int32) - (1 : Int32))), .val (.int (Int32.ofNat i))] [(.int (Int32.ofNat i))])) (fun _ k => XS.iloadN X18.here hx rfl (hb hby d9_40) rfl k) ?_
      exact Go.retI X18 hx (BodyLoose.notSynchronized Bd) Bd.returns (hb hby d9_41) (by rw [e18]; exact ⟨_, hi, hc21, rfl, N19, K23, V18⟩) (by decide) (by decide)
    · refine Go.via (S' := T15.setTop (mkF m 24 #[.val (.ref a1), .val (.int p2), .val (.int ((16 : Int32) - (1 : Int32))), .val (.int (Int32.ofNat i))] [])) (fun _ k => XS.icmpNo X15.here hx rfl (hb hby d9_21) rfl (feq hc21).1 k) ?_
      refine Go.via (S' := T15.setTop (mkF m 25 #[.val (.ref a1), .val (.int p2), .val (.int ((16 : Int32) - (1 : Int32))), .val (.int (Int32.ofNat i))] [(.int (Int32.ofNat i))])) (fun _ k => XS.iloadN X15.here hx rfl (hb hby d9_24) rfl k) ?_
      refine Go.via (S' := T15.setTop (mkF m 26 #[.val (.ref a1), .val (.int p2), .val (.int ((16 : Int32) - (1 : Int32))), .val (.int (Int32.ofNat i))] [(.int (1 : Int32)), (.int (Int32.ofNat i))])) (fun _ k => XS.iconst X15.here hx rfl (hb hby d9_25) k) ?_
      refine Go.via (S' := T15.setTop (mkF m 27 #[.val (.ref a1), .val (.int p2), .val (.int ((16 : Int32) - (1 : Int32))), .val (.int (Int32.ofNat i))] [(.int ((Int32.ofNat i) + (1 : Int32)))])) (fun _ k => XS.iadd X15.here hx rfl (hb hby d9_26) rfl k) ?_
      refine Go.via (S' := T15.setTop (mkF m 28 #[.val (.ref a1), .val (.int p2), .val (.int ((16 : Int32) - (1 : Int32))), .val (.int (Int32.ofNat i))] [(.int ((16 : Int32) - (1 : Int32))), (.int ((Int32.ofNat i) + (1 : Int32)))])) (fun _ k => XS.iloadN X15.here hx rfl (hb hby d9_27) rfl k) ?_
      refine Go.via (S' := T15.setTop (mkF m 29 #[.val (.ref a1), .val (.int p2), .val (.int ((16 : Int32) - (1 : Int32))), .val (.int (Int32.ofNat i))] [(.int (((Int32.ofNat i) + (1 : Int32)) &&& ((16 : Int32) - (1 : Int32))))])) (fun _ k => XS.iand X15.here hx rfl (hb hby d9_28) rfl k) ?_
      refine Go.via (S' := T15.setTop (mkF m 30 #[.val (.ref a1), .val (.int p2), .val (.int ((16 : Int32) - (1 : Int32))), .val (.int (((Int32.ofNat i) + (1 : Int32)) &&& ((16 : Int32) - (1 : Int32))))] [])) (fun _ k => XS.istoreN X15.here hx rfl (hb hby d9_29) rfl (l' := #[.val (.ref a1), .val (.int p2), .val (.int ((16 : Int32) - (1 : Int32))), .val (.int (((Int32.ofNat i) + (1 : Int32)) &&& ((16 : Int32) - (1 : Int32))))]) rfl k) ?_
      refine Go.via (S' := T15.setTop (mkF m 14 #[.val (.ref a1), .val (.int p2), .val (.int ((16 : Int32) - (1 : Int32))), .val (.int (((Int32.ofNat i) + (1 : Int32)) &&& ((16 : Int32) - (1 : Int32))))] [])) (fun _ k => XS.goto X15.here hx rfl (pc0 := 30) (pc' := 14) rfl (hb hby d9_30) (by decide) (by decide) k) ?_
      rw [own_wrap16 hi]
      exact ih T15 h5 _ ((i + 1) % 16) (X15.more (by decide) (by decide)) e15 N5 z5 K5 fk5_0 fk5_1 fk5_2 (Nat.mod_lt _ (by decide)) (by omega)
theorem d8_0 : decode prog_26_method_4_code 0 = .ok (.iconst 2, 1) := by decide +kernel
theorem d8_1 : decode prog_26_method_4_code 1 = .ok (.aload_n 0, 1) := by decide +kernel
theorem d8_2 : decode prog_26_method_4_code 2 = .ok (.getfield 31, 3) := by decide +kernel
theorem d8_5 : decode prog_26_method_4_code 5 = .ok (.iconst 1, 1) := by decide +kernel
theorem d8_6 : decode prog_26_method_4_code 6 = .ok (.iadd, 1) := by decide +kernel
theorem d8_7 : decode prog_26_method_4_code 7 = .ok (.imul, 1) := by decide +kernel
theorem d8_8 : decode prog_26_method_4_code 8 = .ok (.aload_n 0, 1) := by decide +kernel
theorem d8_9 : decode prog_26_method_4_code 9 = .ok (.getfield 13, 3) := by decide +kernel
theorem d8_12 : decode prog_26_method_4_code 12 = .ok (.arraylength, 1) := by decide +kernel
theorem d8_13 : decode prog_26_method_4_code 13 = .ok (.if_icmp .le 7, 3) := by decide +kernel
theorem d8_16 : decode prog_26_method_4_code 16 = .ok (.iconst 1, 1) := by decide +kernel
theorem d8_17 : decode prog_26_method_4_code 17 = .ok (.goto 4, 3) := by decide +kernel
theorem d8_21 : decode prog_26_method_4_code 21 = .ok (.ireturn, 1) := by decide +kernel
theorem d8_20 : decode prog_26_method_4_code 20 = .ok (.iconst 0, 1) := by decide +kernel
theorem ef_8a (m : MethodId) (x0 : Addr) : entryFrame m #[(.ref x0)] 1 = mkF m 0 #[.val (.ref x0)] [] := by first | (simp [entryFrame, mkF, argsToLocals, Value.category]; done) | rfl
def Q8a (Z : State) (a1 : Addr) (sl : Addr) (mm : Nat) (mv : Value) (N : Int64 → Nat) (h0 : Heap) (n0 : Nat) (v : Option Value) (h : Heap) (L : List Loc) : Prop := ∃ r : Int32, v = some (.int r) ∧ Fr n0 L ∧ h = h0 ∧ ((r = 1 ∧ 16 < 2 * (mm + 1)) ∨ (r = 0 ∧ ¬ 16 < 2 * (mm + 1)))
set_option maxRecDepth 65536 in
set_option maxHeartbeats 40000000 in
theorem rm8a (l : Launch) (Z : State) (a0 : Array Value) (hw : ∀ d ∈ tables_1, d.before a0 Z = true) (ws : List Jvm.Cond) (a1 : Addr) (sl : Addr) (mm : Nat) (mv : Value) (N : Int64 → Nat) (h0 : Heap) (n0 : Nat) (Z0 : n0 ≤ h0.size) (TBp : own_TB Z h0 n0 a1 sl 16 mm mv N) (hm : mm < 1000) :
    MetFree l (⟨"com/example/tidematch/tidematch/greedy/VertexTable", "isFull", "()Z"⟩ : MethodName) (head1 (Jvm.Cond.code (⟨"com/example/tidematch/tidematch/greedy/VertexTable", "isFull", "()Z"⟩ : MethodName) prog_26_method_4_code 1 (some .boolean) :: ws) ({ frames := 0, cells := 0, slots := 0, locals := 0 } : Room)) (fun a U => a = #[(.ref a1)] ∧ Z.Warmed39 U.vm ∧ U.heap = h0) (fun _ _ _ _ _ => True) (fun _ U o U' => ∃ v L, o = .returned v ∧ Q8a Z a1 sl mm mv N h0 n0 v U'.heap L ∧ FrameEnd U o U' L ({ frames := 0, cells := 0, slots := 0, locals := 0 } : Room).cells ({ frames := 0, cells := 0, slots := 0, locals := 0 } : Room).slots) := by
  refine MetFree.of_bodySF (plainFor_of_name pn_1) hisR ?_
  intro p e s m args below meth c s₁ Bd hml0 hP hK
  obtain ⟨rfl, hZ, hh⟩ := hP
  have hx := Bd.exec
  have hby := Bd.bytes
  have hml : c.maxLocals = 1 := hml0
  have hown : s.vm.findClass "com/example/tidematch/tidematch/greedy/VertexTable" = some m.cls := findClass_of_methodNamed Bd.named
  have hnm := (name_of_methodNamed Bd.named Bd.method).1
  have X0 : Stand p l e ({ frames := 0, cells := 0, slots := 0, locals := 0 } : Room) s m #[(.ref a1)] below meth c s₁ [] 0 0 := Stand.of_body Bd
  have e0 : s₁.heap = h0 := by rw [← hh, Bd.state]; rfl
  have N0 := Fr.nil n0
  show Go p e below s (Q8a Z a1 sl mm mv N h0 n0) ({ frames := 0, cells := 0, slots := 0, locals := 0 } : Room).cells ({ frames := 0, cells := 0, slots := 0, locals := 0 } : Room).slots _
  refine Go.via (S' := s₁.setTop (mkF m 0 #[.val (.ref a1)] [])) (fun t k => castTop (ef_8a m a1) k) ?_
  obtain ⟨Et, Fsz, Fsl, Fmv, gsl, nesl, f, Vsl, hcnt, hN⟩ := TBp
  refine Go.via (S' := s₁.setTop (mkF m 1 #[.val (.ref a1)] [(.int (2 : Int32))])) (fun _ k => XS.iconst X0.here hx rfl (hb hby d8_0) k) ?_
  refine Go.via (S' := s₁.setTop (mkF m 2 #[.val (.ref a1)] [(.ref a1), (.int (2 : Int32))])) (fun _ k => XS.aloadN X0.here hx rfl (hb hby d8_1) rfl rfl k) ?_
  obtain ⟨T1, X1, e1, st1⟩ := getF X0 hx hZ hown (host := "") (Or.inl (hw _ (List.mem_of_getElem? (i := 42) rfl))) Via.refl e0 Fsz (g := (mkF m 2 #[.val (.ref a1)] [(.ref a1), (.int (2 : Int32))])) rfl rfl (hb hby d8_2)
  refine Go.via (S' := T1.setTop (mkF m 5 #[.val (.ref a1)] [(.int (Int32.ofNat mm)), (.int (2 : Int32))])) (fun _ k => st1 _ k) ?_
  refine Go.via (S' := T1.setTop (mkF m 6 #[.val (.ref a1)] [(.int (1 : Int32)), (.int (Int32.ofNat mm)), (.int (2 : Int32))])) (fun _ k => XS.iconst X1.here hx rfl (hb hby d8_5) k) ?_
  refine Go.via (S' := T1.setTop (mkF m 7 #[.val (.ref a1)] [(.int ((Int32.ofNat mm) + (1 : Int32))), (.int (2 : Int32))])) (fun _ k => XS.iadd X1.here hx rfl (hb hby d8_6) rfl k) ?_
  refine Go.via (S' := T1.setTop (mkF m 8 #[.val (.ref a1)] [(.int ((2 : Int32) * ((Int32.ofNat mm) + (1 : Int32))))])) (fun _ k => XS.imul X1.here hx rfl (hb hby d8_7) rfl k) ?_
  refine Go.via (S' := T1.setTop (mkF m 9 #[.val (.ref a1)] [(.ref a1), (.int ((2 : Int32) * ((Int32.ofNat mm) + (1 : Int32))))])) (fun _ k => XS.aloadN X1.here hx rfl (hb hby d8_8) rfl rfl k) ?_
  obtain ⟨T2, X2, e2, st2⟩ := getF X1 hx hZ hown (host := "") (Or.inl (hw _ (List.mem_of_getElem? (i := 18) rfl))) Via.refl e1 Fsl (g := (mkF m 9 #[.val (.ref a1)] [(.ref a1), (.int ((2 : Int32) * ((Int32.ofNat mm) + (1 : Int32))))])) rfl rfl (hb hby d8_9)
  refine Go.via (S' := T2.setTop (mkF m 12 #[.val (.ref a1)] [(.ref sl), (.int ((2 : Int32) * ((Int32.ofNat mm) + (1 : Int32))))])) (fun _ k => st2 _ k) ?_
  obtain ⟨c3, Ar3, S3, -⟩ := id Vsl
  refine Go.via (S' := T2.setTop (mkF m 13 #[.val (.ref a1)] [(.int c3.slots.size.toInt32), (.int ((2 : Int32) * ((Int32.ofNat mm) + (1 : Int32))))])) (fun _ k => X2.arraylength hx (by rw [e2]; exact Ar3.1) (State.isArrayOf_alike hZ.alike Ar3.2.1) (g := (mkF m 12 #[.val (.ref a1)] [(.ref sl), (.int ((2 : Int32) * ((Int32.ofNat mm) + (1 : Int32))))])) rfl rfl (hb hby d8_12) _ k) ?_
  rw [S3]
  show Go p e below s (Q8a Z a1 sl mm mv N h0 n0) ({ frames := 0, cells := 0, slots := 0, locals := 0 } : Room).cells ({ frames := 0, cells := 0, slots := 0, locals := 0 } : Room).slots (T2.setTop (mkF m 13 #[.val (.ref a1)] [(.int (16 : Int32)), (.int ((2 : Int32) * ((Int32.ofNat mm) + (1 : Int32))))]))
  have hb13 : (16 : Int32) < (2 : Int32) * (Int32.ofNat mm + (1 : Int32)) ↔ 16 < 2 * (mm + 1) := own_two (c := 16) hm (by decide)
  rcases Decidable.em ((16 : Int32) < ((2 : Int32) * ((Int32.ofNat mm) + (1 : Int32)))) with hc13 | hc13
  · refine Go.via (S' := T2.setTop (mkF m 16 #[.val (.ref a1)] [])) (fun _ k => XS.icmpNo X2.here hx rfl (hb hby d8_13) rfl (tlt hc13).2.2.2 k) ?_
    refine Go.via (S' := T2.setTop (mkF m 17 #[.val (.ref a1)] [(.int (1 : Int32))])) (fun _ k => XS.iconst X2.here hx rfl (hb hby d8_16) k) ?_
    refine Go.via (S' := T2.setTop (mkF m 21 #[.val (.ref a1)] [(.int (1 : Int32))])) (fun _ k => XS.goto X2.here hx rfl (pc0 := 17) (pc' := 21) rfl (hb hby d8_17) (by decide) (by decide) k) ?_
    exact Go.retB X2 hx (BodyLoose.notSynchronized Bd) Bd.returns (hb hby d8_21) rfl (by rw [e2]; exact ⟨_, rfl, N0, rfl, Or.inl ⟨rfl, hb13.mp hc13⟩⟩) (by decide) (by decide)
  · refine Go.via (S' := T2.setTop (mkF m 20 #[.val (.ref a1)] [])) (fun _ k => XS.icmpYes X2.here hx rfl (pc0 := 13) (pc' := 20) rfl (hb hby d8_13) rfl (flt hc13).2.2.2 (by decide) (by decide) k) ?_
    refine Go.via (S' := T2.setTop (mkF m 21 #[.val (.ref a1)] [(.int (0 : Int32))])) (fun _ k => XS.iconst X2.here hx rfl (hb hby d8_20) k) ?_
    exact Go.retB X2 hx (BodyLoose.notSynchronized Bd) Bd.returns (hb hby d8_21) rfl (by rw [e2]; exact ⟨_, rfl, N0, rfl, Or.inr ⟨rfl, fun q => hc13 (hb13.mpr q)⟩⟩) (by decide) (by decide)
theorem d7_0 : decode prog_26_method_3_code 0 = .ok (.aload_n 0, 1) := by decide +kernel
theorem d7_1 : decode prog_26_method_3_code 1 = .ok (.invokevirtual 24, 3) := by decide +kernel
theorem pd_3 : parseMethodDescriptor "()Z" = some ⟨[], some .boolean⟩ := by decide +kernel
theorem d7_4 : decode prog_26_method_3_code 4 = .ok (.ifCond .eq 7, 3) := by decide +kernel
theorem d7_11 : decode prog_26_method_3_code 11 = .ok (.aload_n 0, 1) := by decide +kernel
theorem d7_12 : decode prog_26_method_3_code 12 = .ok (.dup, 1) := by decide +kernel
theorem d7_13 : decode prog_26_method_3_code 13 = .ok (.getfield 31, 3) := by decide +kernel
theorem d7_16 : decode prog_26_method_3_code 16 = .ok (.iconst 1, 1) := by decide +kernel
theorem d7_17 : decode prog_26_method_3_code 17 = .ok (.iadd, 1) := by decide +kernel
theorem d7_18 : decode prog_26_method_3_code 18 = .ok (.putfield 31, 3) := by decide +kernel
theorem d7_21 : decode prog_26_method_3_code 21 = .ok (.aload_n 0, 1) := by decide +kernel
theorem d7_22 : decode prog_26_method_3_code 22 = .ok (.iload_n 1, 1) := by decide +kernel
theorem d7_23 : decode prog_26_method_3_code 23 = .ok (.invokevirtual 35, 3) := by decide +kernel
theorem d7_26 : decode prog_26_method_3_code 26 = .ok (.ireturn, 1) := by decide +kernel
theorem ef_7a (m : MethodId) (x0 : Addr) (x1 : Int32) : entryFrame m #[(.ref x0), (.int x1)] 2 = mkF m 0 #[.val (.ref x0), .val (.int x1)] [] := by first | (simp [entryFrame, mkF, argsToLocals, Value.category]; done) | rfl
def Q7a (Z : State) (a1 : Addr) (p2 : Int32) (sl : Addr) (mm : Nat) (mv : Value) (N : Int64 → Nat) (h0 : Heap) (n0 : Nat) (v : Option Value) (h : Heap) (L : List Loc) : Prop := (∃ r : Int32, v = some (.int r)) ∧ Fr n0 L ∧ Keep h0 h [a1, sl] ∧ own_TB Z h n0 a1 sl 16 (mm + 1) mv (fun q => N q + if p2.toInt64 < q then 1 else 0)
set_option maxRecDepth 65536 in
set_option maxHeartbeats 40000000 in
theorem rm7a (l : Launch) (Z : State) (a0 : Array Value) (hw : ∀ d ∈ tables_1, d.before a0 Z = true) (ws : List Jvm.Cond) (a1 : Addr) (p2 : Int32) (sl : Addr) (mm : Nat) (mv : Value) (N : Int64 → Nat) (h0 : Heap) (n0 : Nat) (Z0 : n0 ≤ h0.size) (TBp : own_TB Z h0 n0 a1 sl 16 mm mv N) (hm : mm < 8) (hv : 0 ≤ p2.toInt) (g1 : n0 ≤ a1) :
    MetFree l (⟨"com/example/tidematch/tidematch/greedy/VertexTable", "insert", "(I)I"⟩ : MethodName) (head1 (Jvm.Cond.code (⟨"com/example/tidematch/tidematch/greedy/VertexTable", "insert", "(I)I"⟩ : MethodName) prog_26_method_3_code 2 (some .int) :: ws) ({ frames := 3, cells := 0, slots := 0, locals := 42 } : Room)) (fun a U => a = #[(.ref a1), (.int p2)] ∧ Z.Warmed39 U.vm ∧ U.heap = h0) (fun _ _ _ _ _ => True) (fun _ U o U' => ∃ v L, o = .returned v ∧ Q7a Z a1 p2 sl mm mv N h0 n0 v U'.heap L ∧ FrameEnd U o U' L ({ frames := 3, cells := 0, slots := 0, locals := 42 } : Room).cells ({ frames := 3, cells := 0, slots := 0, locals := 42 } : Room).slots) := by
  refine MetFree.of_bodySF (plainFor_of_name pn_1) hisR ?_
  intro p e s m args below meth c s₁ Bd hml0 hP hK
  obtain ⟨rfl, hZ, hh⟩ := hP
  have hx := Bd.exec
  have hby := Bd.bytes
  have hml : c.maxLocals = 2 := hml0
  have hown : s.vm.findClass "com/example/tidematch/tidematch/greedy/VertexTable" = some m.cls := findClass_of_methodNamed Bd.named
  have hnm := (name_of_methodNamed Bd.named Bd.method).1
  have X0 : Stand p l e ({ frames := 3, cells := 0, slots := 0, locals := 42 } : Room) s m #[(.ref a1), (.int p2)] below meth c s₁ [] 0 0 := Stand.of_body Bd
  have e0 : s₁.heap = h0 := by rw [← hh, Bd.state]; rfl
  have N0 := Fr.nil n0
  show Go p e below s (Q7a Z a1 p2 sl mm mv N h0 n0) ({ frames := 3, cells := 0, slots := 0, locals := 42 } : Room).cells ({ frames := 3, cells := 0, slots := 0, locals := 42 } : Room).slots _
  refine Go.via (S' := s₁.setTop (mkF m 0 #[.val (.ref a1), .val (.int p2)] [])) (fun t k => castTop (ef_7a m a1 p2) k) ?_
  obtain ⟨Et, Fsz, Fsl, Fmv, gsl, nesl, f, Vsl, hcnt, hN⟩ := id TBp
  refine Go.via (S' := s₁.setTop (mkF m 1 #[.val (.ref a1), .val (.int p2)] [(.ref a1)])) (fun _ k => XS.aloadN X0.here hx rfl (hb hby d7_0) rfl rfl k) ?_
  obtain ⟨cq1, kq1, q1a, q1b, q1c⟩ := isOf hZ e0 Et
  obtain ⟨_, _, ⟨T1, L1, k1, n1⟩, -, X1, ⟨Lc1, hQ1, l1, y1, z1⟩, st1⟩ := X0.virtualBack hx (y := (⟨"com/example/tidematch/tidematch/greedy/VertexTable", "isFull", "()Z"⟩ : MethodName)) (z := (⟨"com/example/tidematch/tidematch/greedy/VertexTable", "isFull", "()Z"⟩ : MethodName)) hown (mvT hZ (hw _ (List.mem_of_getElem? (i := 37) rfl))) (mvT hZ (hw _ (List.mem_of_getElem? (i := 38) rfl))) (notFace_of_selects (args := #[]) (mvT hZ (hw _ (List.mem_of_getElem? (i := 40) rfl)))) (mvT hZ (hw _ (List.mem_of_getElem? (i := 40) rfl))) (mvT hZ (hw _ (List.mem_of_getElem? (i := 39) rfl))) (by decide) (backOf (W := 0) (rm8a l Z a0 hw [] a1 sl mm mv N h0 n0 Z0 TBp (by omega)) hZ (hw _ (List.mem_of_getElem? (i := 41) rfl)) (hw _ (List.mem_of_getElem? (i := 3) rfl)) (by decide) (by decide)) q1a q1c (g := (mkF m 1 #[.val (.ref a1), .val (.int p2)] [(.ref a1)])) rfl (by rw [hml]; rfl) (Steps.refl _) (argsL := []) (rest := []) (lenOf pd_3 rfl) rfl (by show 2 * 0 + _ ≤ _; exact Nat.le_of_eq rfl) (hb hby d7_1) (fun _ _ => ⟨rfl, e0, (by decide : 0 + 0 ≤ _), (by decide : 0 + 0 ≤ _)⟩)
  dsimp only [Pt.U, Pt.locs, Pt.cells, Pt.slots] at X1 l1 y1 z1 st1 hQ1
  subst l1 y1 z1
  obtain ⟨r1, rfl, N1q, e1, hr1⟩ := hQ1
  have N2 := Fr.app N0 N1q
  refine Go.via (S' := T1.setTop (mkF m 4 #[.val (.ref a1), .val (.int p2)] [(.int r1)])) (fun _ k => st1.trans k) ?_
  rcases hr1 with ⟨rfl, hB⟩ | ⟨rfl, hB⟩
  · exfalso
    omega
  · refine Go.via (S' := T1.setTop (mkF m 11 #[.val (.ref a1), .val (.int p2)] [])) (fun _ k => XS.ifYes X1.here hx rfl (pc0 := 4) (pc' := 11) rfl (hb hby d7_4) rfl ((if0 _ _).trans (teq (by decide)).1) (by decide) (by decide) k) ?_
    refine Go.via (S' := T1.setTop (mkF m 12 #[.val (.ref a1), .val (.int p2)] [(.ref a1)])) (fun _ k => XS.aloadN X1.here hx rfl (hb hby d7_11) rfl rfl k) ?_
    refine Go.via (S' := T1.setTop (mkF m 13 #[.val (.ref a1), .val (.int p2)] [(.ref a1), (.ref a1)])) (fun _ k => XS.dup X1.here hx rfl (hb hby d7_12) rfl rfl k) ?_
    obtain ⟨T3, X3, e3, st3⟩ := getF X1 hx hZ hown (host := "") (Or.inl (hw _ (List.mem_of_getElem? (i := 42) rfl))) Via.refl e1 Fsz (g := (mkF m 13 #[.val (.ref a1), .val (.int p2)] [(.ref a1), (.ref a1)])) rfl rfl (hb hby d7_13)
    refine Go.via (S' := T3.setTop (mkF m 16 #[.val (.ref a1), .val (.int p2)] [(.int (Int32.ofNat mm)), (.ref a1)])) (fun _ k => st3 _ k) ?_
    refine Go.via (S' := T3.setTop (mkF m 17 #[.val (.ref a1), .val (.int p2)] [(.int (1 : Int32)), (.int (Int32.ofNat mm)), (.ref a1)])) (fun _ k => XS.iconst X3.here hx rfl (hb hby d7_16) k) ?_
    refine Go.via (S' := T3.setTop (mkF m 18 #[.val (.ref a1), .val (.int p2)] [(.int ((Int32.ofNat mm) + (1 : Int32))), (.ref a1)])) (fun _ k => XS.iadd X3.here hx rfl (hb hby d7_17) rfl k) ?_
    obtain ⟨T4, h4, X4, e4, W4, st4⟩ := putF X3 hx hZ hown (host := "") (Or.inl (hw _ (List.mem_of_getElem? (i := 42) rfl))) Via.refl e3 Fsz Et (Or.inl (hw _ (List.mem_of_getElem? (i := 43) rfl))) (hw _ (List.mem_of_getElem? (i := 2) rfl)) (ty := .int) (by decide) rfl rfl (g := (mkF m 18 #[.val (.ref a1), .val (.int p2)] [(.int ((Int32.ofNat mm) + (1 : Int32))), (.ref a1)])) rfl rfl (hb hby d7_18)
    have N5 := Fr.snoc X4 N2 g1
    have f6 := Et.wr W4
    have f7 := Fsz.same W4
    have f8 := Fsl.other W4 (Or.inr (slot_ne (Or.inl (hw _ (List.mem_of_getElem? (i := 19) rfl))) (Or.inl (hw _ (List.mem_of_getElem? (i := 43) rfl))) (by decide) (t := (.array .int)) (t' := .int) (by decide) (by decide)))
    have f9 := Fmv.other W4 (Or.inr (slot_ne (Or.inl (hw _ (List.mem_of_getElem? (i := 21) rfl))) (Or.inl (hw _ (List.mem_of_getElem? (i := 43) rfl))) (by decide) (t := (.array .int)) (t' := .int) (by decide) (by decide)))
    have f10 := Vsl.other W4 nesl
    have z11 := Nat.le_trans Z0 (Keep.of_wr W4).1
    have K12 := (Keep.refl h0 [a1, sl]).wr W4 (Or.inl (List.mem_of_getElem? (i := 0) rfl))
    refine Go.via (S' := T4.setTop (mkF m 21 #[.val (.ref a1), .val (.int p2)] [])) (fun _ k => st4 _ k) ?_
    refine Go.via (S' := T4.setTop (mkF m 22 #[.val (.ref a1), .val (.int p2)] [(.ref a1)])) (fun _ k => XS.aloadN X4.here hx rfl (hb hby d7_21) rfl rfl k) ?_
    refine Go.via (S' := T4.setTop (mkF m 23 #[.val (.ref a1), .val (.int p2)] [(.int p2), (.ref a1)])) (fun _ k => XS.iloadN X4.here hx rfl (hb hby d7_22) rfl k) ?_
    obtain ⟨j0, hj0, hf0⟩ := own_free (f := f) (n := 16) (by omega)
    obtain ⟨cq13, q13, q13'⟩ := f6.cell
    obtain ⟨_, _, ⟨T13, L13, k13, n13⟩, -, X13, ⟨Lc13, hQ13, l13, y13, z13⟩, st13⟩ := X4.privateBack hx (y := (⟨"com/example/tidematch/tidematch/greedy/VertexTable", "place", "(I)I"⟩ : MethodName)) hown (mvT hZ (hw _ (List.mem_of_getElem? (i := 44) rfl))) (mvT hZ (hw _ (List.mem_of_getElem? (i := 45) rfl))) (own_sel (mvT hZ (hw _ (List.mem_of_getElem? (i := 2) rfl))) (Cond.privateMethod_at (mvP hZ (hw _ (List.mem_of_getElem? (i := 46) rfl)) (args := #[]))) (mvT hZ (hw _ (List.mem_of_getElem? (i := 45) rfl))) (by decide)) (Cond.privateMethod_at (mvP hZ (hw _ (List.mem_of_getElem? (i := 46) rfl)) (args := #[]))) (mvT hZ (hw _ (List.mem_of_getElem? (i := 47) rfl))) (by decide) (backOf (W := 0) (rm9a l Z a0 hw [] a1 p2 sl f j0 h4 n0 z11 f6 f8 f10 gsl nesl hj0 hf0) hZ (hw _ (List.mem_of_getElem? (i := 47) rfl)) (hw _ (List.mem_of_getElem? (i := 3) rfl)) (by decide) (by decide)) (g := (mkF m 23 #[.val (.ref a1), .val (.int p2)] [(.int p2), (.ref a1)])) rfl (by rw [hml]; rfl) (Steps.refl _) (a := a1) (by rw [e4]; exact q13) q13' (argsL := [(.int p2)]) (rest := []) (lenOf pd_2 rfl) rfl (by show 2 * 0 + _ ≤ _; exact Nat.le_of_eq rfl) (hb hby d7_23) (fun _ _ => ⟨rfl, e4, (by decide : 0 + 0 ≤ _), (by decide : 0 + 0 ≤ _)⟩)
    dsimp only [Pt.U, Pt.locs, Pt.cells, Pt.slots] at X13 l13 y13 z13 st13 hQ13
    subst l13 y13 z13
    obtain ⟨j13, hj13, hf13, rfl, N13q, K13, Vp13⟩ := hQ13
    have N14 := Fr.app N5 N13q
    have f15 := f6.keep K13
    have f16 := f7.keep K13 (ninS (Ne.symm nesl) nin0)
    have f17 := f8.keep K13 (ninS (Ne.symm nesl) nin0)
    have f18 := f9.keep K13 (ninS (Ne.symm nesl) nin0)
    have z19 := Nat.le_trans z11 K13.1
    have K20 := K12.trans K13 (allS (Or.inl (List.mem_of_getElem? (i := 1) rfl)) all0)
    refine Go.via (S' := T13.setTop (mkF m 26 #[.val (.ref a1), .val (.int p2)] [(.int (Int32.ofNat j13))])) (fun _ k => st13.trans k) ?_
    exact Go.retI X13 hx (BodyLoose.notSynchronized Bd) Bd.returns (hb hby d7_26) ⟨⟨_, rfl⟩, N14, K20, f15, (by rw [← own_succ]; exact f16), f17, f18, gsl, nesl, _, Vp13, own_cnt1 hf13 hj13 (own_pos hv) hcnt, fun q => own_cnt2 hf13 hj13 (own_pos hv) (hN q)⟩ (by decide) (by decide)
theorem d5_0 : decode method_3_code 0 = .ok (.iload_n 0, 1) := by decide +kernel
theorem d5_1 : decode method_3_code 1 = .ok (.ifCond .eq 12, 3) := by decide +kernel
theorem d5_13 : decode method_3_code 13 = .ok (.iconst 0, 1) := by decide +kernel
theorem d5_14 : decode method_3_code 14 = .ok (.ireturn, 1) := by decide +kernel
theorem d5_4 : decode method_3_code 4 = .ok (.iload_n 1, 1) := by decide +kernel
theorem d5_5 : decode method_3_code 5 = .ok (.i2l, 1) := by decide +kernel
theorem d5_6 : decode method_3_code 6 = .ok (.lload_n 2, 1) := by decide +kernel
theorem d5_7 : decode method_3_code 7 = .ok (.lcmp, 1) := by decide +kernel
theorem d5_8 : decode method_3_code 8 = .ok (.ifCond .ge 5, 3) := by decide +kernel
theorem d5_11 : decode method_3_code 11 = .ok (.iconst 1, 1) := by decide +kernel
theorem d5_12 : decode method_3_code 12 = .ok (.ireturn, 1) := by decide +kernel
theorem pn_3 : plainName "com/example/tidematch/tidematch/greedy/VertexTableCountBelowPinLaw" = true := by first | (simp [plainName, overriddenIn]; done) | decide +kernel
theorem ef_5 (m : MethodId) (x0 : Int32) (x1 : Int32) (x2 : Int64) : entryFrame m #[(.int x0), (.int x1), (.long x2)] 4 = mkF m 0 #[.val (.int x0), .val (.int x1), .val (.long x2), .second] [] := by first | (simp [entryFrame, mkF, argsToLocals, Value.category]; done) | rfl
def Q5 (Z : State) (p1 : Int32) (p2 : Int32) (q3 : Int64) (h0 : Heap) (n0 : Nat) (v : Option Value) (h : Heap) (L : List Loc) : Prop := v = some (.int (Int32.ofNat (own_b p1 p2 q3))) ∧ Fr n0 L ∧ h = h0
set_option maxRecDepth 65536 in
set_option maxHeartbeats 40000000 in
theorem rm5 (l : Launch) (Z : State) (a0 : Array Value) (hw : ∀ d ∈ tables_1, d.before a0 Z = true) (ws : List Jvm.Cond) (p1 : Int32) (p2 : Int32) (q3 : Int64) (h0 : Heap) (n0 : Nat) (Z0 : n0 ≤ h0.size) :
    MetFree l (⟨"com/example/tidematch/tidematch/greedy/VertexTableCountBelowPinLaw", "below", "(ZIJ)I"⟩ : MethodName) (head1 (Jvm.Cond.code (⟨"com/example/tidematch/tidematch/greedy/VertexTableCountBelowPinLaw", "below", "(ZIJ)I"⟩ : MethodName) method_3_code 4 (some .int) :: ws) ({ frames := 0, cells := 0, slots := 0, locals := 0 } : Room)) (fun a U => a = #[(.int p1), (.int p2), (.long q3)] ∧ Z.Warmed39 U.vm ∧ U.heap = h0) (fun _ _ _ _ _ => True) (fun _ U o U' => ∃ v L, o = .returned v ∧ Q5 Z p1 p2 q3 h0 n0 v U'.heap L ∧ FrameEnd U o U' L ({ frames := 0, cells := 0, slots := 0, locals := 0 } : Room).cells ({ frames := 0, cells := 0, slots := 0, locals := 0 } : Room).slots) := by
  refine MetFree.of_bodySF (plainFor_of_name pn_3) hisR ?_
  intro p e s m args below meth c s₁ Bd hml0 hP hK
  obtain ⟨rfl, hZ, hh⟩ := hP
  have hx := Bd.exec
  have hby := Bd.bytes
  have hml : c.maxLocals = 4 := hml0
  have hown : s.vm.findClass "com/example/tidematch/tidematch/greedy/VertexTableCountBelowPinLaw" = some m.cls := findClass_of_methodNamed Bd.named
  have hnm := (name_of_methodNamed Bd.named Bd.method).1
  have X0 : Stand p l e ({ frames := 0, cells := 0, slots := 0, locals := 0 } : Room) s m #[(.int p1), (.int p2), (.long q3)] below meth c s₁ [] 0 0 := Stand.of_body Bd
  have e0 : s₁.heap = h0 := by rw [← hh, Bd.state]; rfl
  have N0 := Fr.nil n0
  show Go p e below s (Q5 Z p1 p2 q3 h0 n0) ({ frames := 0, cells := 0, slots := 0, locals := 0 } : Room).cells ({ frames := 0, cells := 0, slots := 0, locals := 0 } : Room).slots _
  refine Go.via (S' := s₁.setTop (mkF m 0 #[.val (.int p1), .val (.int p2), .val (.long q3), .second] [])) (fun t k => castTop (ef_5 m p1 p2 q3) k) ?_
  refine Go.via (S' := s₁.setTop (mkF m 1 #[.val (.int p1), .val (.int p2), .val (.long q3), .second] [(.int p1)])) (fun _ k => XS.iloadN X0.here hx rfl (hb hby d5_0) rfl k) ?_
  rcases Decidable.em (p1 = (0 : Int32)) with hc1 | hc1
  · refine Go.via (S' := s₁.setTop (mkF m 13 #[.val (.int p1), .val (.int p2), .val (.long q3), .second] [])) (fun _ k => XS.ifYes X0.here hx rfl (pc0 := 1) (pc' := 13) rfl (hb hby d5_1) rfl ((if0 _ _).trans (teq hc1).1) (by decide) (by decide) k) ?_
    refine Go.via (S' := s₁.setTop (mkF m 14 #[.val (.int p1), .val (.int p2), .val (.long q3), .second] [(.int (0 : Int32))])) (fun _ k => XS.iconst X0.here hx rfl (hb hby d5_13) k) ?_
    exact Go.retI X0 hx (BodyLoose.notSynchronized Bd) Bd.returns (hb hby d5_14) (by rw [e0]; exact ⟨congrArg (fun z => some (Value.int (Int32.ofNat z))) (show 0 = own_b p1 p2 q3 by simp [own_b, hc1]), N0, rfl⟩) (by decide) (by decide)
  · refine Go.via (S' := s₁.setTop (mkF m 4 #[.val (.int p1), .val (.int p2), .val (.long q3), .second] [])) (fun _ k => XS.ifNo X0.here hx rfl (hb hby d5_1) rfl ((if0 _ _).trans (feq hc1).1) k) ?_
    refine Go.via (S' := s₁.setTop (mkF m 5 #[.val (.int p1), .val (.int p2), .val (.long q3), .second] [(.int p2)])) (fun _ k => XS.iloadN X0.here hx rfl (hb hby d5_4) rfl k) ?_
    refine Go.via (S' := s₁.setTop (mkF m 6 #[.val (.int p1), .val (.int p2), .val (.long q3), .second] [(.long (p2.toInt64))])) (fun _ k => XS.i2l X0.here hx rfl (hb hby d5_5) rfl k) ?_
    refine Go.via (S' := s₁.setTop (mkF m 7 #[.val (.int p1), .val (.int p2), .val (.long q3), .second] [(.long q3), (.long (p2.toInt64))])) (fun _ k => XS.lloadN X0.here hx rfl (hb hby d5_6) rfl k) ?_
    refine Go.via (S' := s₁.setTop (mkF m 8 #[.val (.int p1), .val (.int p2), .val (.long q3), .second] [(.int (lcmpW (p2.toInt64) q3))])) (fun _ k => XS.lcmp X0.here hx rfl (hb hby d5_7) rfl k) ?_
    rcases Decidable.em ((p2.toInt64) < q3) with hc8 | hc8
    · refine Go.via (S' := s₁.setTop (mkF m 11 #[.val (.int p1), .val (.int p2), .val (.long q3), .second] [])) (fun _ k => XS.ifNo X0.here hx rfl (hb hby d5_8) rfl ((if0 _ _).trans (tlt (own_lc1 hc8)).2.1) k) ?_
      refine Go.via (S' := s₁.setTop (mkF m 12 #[.val (.int p1), .val (.int p2), .val (.long q3), .second] [(.int (1 : Int32))])) (fun _ k => XS.iconst X0.here hx rfl (hb hby d5_11) k) ?_
      exact Go.retI X0 hx (BodyLoose.notSynchronized Bd) Bd.returns (hb hby d5_12) (by rw [e0]; exact ⟨congrArg (fun z => some (Value.int (Int32.ofNat z))) (show 1 = own_b p1 p2 q3 by simp [own_b, hc1, hc8]), N0, rfl⟩) (by decide) (by decide)
    · refine Go.via (S' := s₁.setTop (mkF m 13 #[.val (.int p1), .val (.int p2), .val (.long q3), .second] [])) (fun _ k => XS.ifYes X0.here hx rfl (pc0 := 8) (pc' := 13) rfl (hb hby d5_8) rfl ((if0 _ _).trans (flt (own_lc2 hc8)).2.1) (by decide) (by decide) k) ?_
      refine Go.via (S' := s₁.setTop (mkF m 14 #[.val (.int p1), .val (.int p2), .val (.long q3), .second] [(.int (0 : Int32))])) (fun _ k => XS.iconst X0.here hx rfl (hb hby d5_13) k) ?_
      exact Go.retI X0 hx (BodyLoose.notSynchronized Bd) Bd.returns (hb hby d5_14) (by rw [e0]; exact ⟨congrArg (fun z => some (Value.int (Int32.ofNat z))) (show 0 = own_b p1 p2 q3 by simp [own_b, hc1, hc8]), N0, rfl⟩) (by decide) (by decide)
theorem d6_0 : decode prog_26_method_6_code 0 = .ok (.iconst 0, 1) := by decide +kernel
theorem d6_1 : decode prog_26_method_6_code 1 = .ok (.istore_n 3, 1) := by decide +kernel
theorem d6_2 : decode prog_26_method_6_code 2 = .ok (.aload_n 0, 1) := by decide +kernel
theorem d6_3 : decode prog_26_method_6_code 3 = .ok (.getfield 13, 3) := by decide +kernel
theorem d6_6 : decode prog_26_method_6_code 6 = .ok (.astore 4, 2) := by decide +kernel
theorem d6_8 : decode prog_26_method_6_code 8 = .ok (.aload 4, 2) := by decide +kernel
theorem d6_10 : decode prog_26_method_6_code 10 = .ok (.arraylength, 1) := by decide +kernel
theorem d6_11 : decode prog_26_method_6_code 11 = .ok (.istore 5, 2) := by decide +kernel
theorem d6_13 : decode prog_26_method_6_code 13 = .ok (.iconst 0, 1) := by decide +kernel
theorem d6_14 : decode prog_26_method_6_code 14 = .ok (.istore 6, 2) := by decide +kernel
theorem d6_16 : decode prog_26_method_6_code 16 = .ok (.iload 6, 2) := by decide +kernel
theorem d6_18 : decode prog_26_method_6_code 18 = .ok (.iload 5, 2) := by decide +kernel
theorem d6_20 : decode prog_26_method_6_code 20 = .ok (.if_icmp .ge 33, 3) := by decide +kernel
theorem d6_53 : decode prog_26_method_6_code 53 = .ok (.iload_n 3, 1) := by decide +kernel
theorem d6_54 : decode prog_26_method_6_code 54 = .ok (.ireturn, 1) := by decide +kernel
theorem d6_23 : decode prog_26_method_6_code 23 = .ok (.aload 4, 2) := by decide +kernel
theorem d6_25 : decode prog_26_method_6_code 25 = .ok (.iload 6, 2) := by decide +kernel
theorem d6_27 : decode prog_26_method_6_code 27 = .ok (.iaload, 1) := by decide +kernel
theorem d6_28 : decode prog_26_method_6_code 28 = .ok (.istore 7, 2) := by decide +kernel
theorem d6_30 : decode prog_26_method_6_code 30 = .ok (.iload 7, 2) := by decide +kernel
theorem d6_32 : decode prog_26_method_6_code 32 = .ok (.iconst (-1), 1) := by decide +kernel
theorem d6_33 : decode prog_26_method_6_code 33 = .ok (.if_icmp .eq 14, 3) := by decide +kernel
theorem d6_47 : decode prog_26_method_6_code 47 = .ok (.iinc 6 1, 3) := by decide +kernel
theorem d6_50 : decode prog_26_method_6_code 50 = .ok (.goto (-34), 3) := by decide +kernel
theorem d6_36 : decode prog_26_method_6_code 36 = .ok (.iload 7, 2) := by decide +kernel
theorem d6_38 : decode prog_26_method_6_code 38 = .ok (.i2l, 1) := by decide +kernel
theorem d6_39 : decode prog_26_method_6_code 39 = .ok (.lload_n 1, 1) := by decide +kernel
theorem d6_40 : decode prog_26_method_6_code 40 = .ok (.lcmp, 1) := by decide +kernel
theorem d6_41 : decode prog_26_method_6_code 41 = .ok (.ifCond .ge 6, 3) := by decide +kernel
theorem d6_44 : decode prog_26_method_6_code 44 = .ok (.iinc 3 1, 3) := by decide +kernel
theorem ef_6 (m : MethodId) (x0 : Addr) (x1 : Int64) : entryFrame m #[(.ref x0), (.long x1)] 8 = mkF m 0 #[.val (.ref x0), .val (.long x1), .second, .unset, .unset, .unset, .unset, .unset] [] := by first | (simp [entryFrame, mkF, argsToLocals, Value.category]; done) | rfl
def Q6 (Z : State) (a1 : Addr) (q2 : Int64) (sl : Addr) (mm : Nat) (mv : Value) (N : Int64 → Nat) (h0 : Heap) (n0 : Nat) (v : Option Value) (h : Heap) (L : List Loc) : Prop := v = some (.int (Int32.ofNat (N q2))) ∧ Fr n0 L ∧ h = h0
set_option maxRecDepth 65536 in
set_option maxHeartbeats 40000000 in
theorem rm6 (l : Launch) (Z : State) (a0 : Array Value) (hw : ∀ d ∈ tables_1, d.before a0 Z = true) (ws : List Jvm.Cond) (a1 : Addr) (q2 : Int64) (sl : Addr) (mm : Nat) (mv : Value) (N : Int64 → Nat) (h0 : Heap) (n0 : Nat) (Z0 : n0 ≤ h0.size) (TBp : own_TB Z h0 n0 a1 sl 16 mm mv N) :
    MetFree l (⟨"com/example/tidematch/tidematch/greedy/VertexTable", "countBelow", "(J)I"⟩ : MethodName) (head1 (Jvm.Cond.code (⟨"com/example/tidematch/tidematch/greedy/VertexTable", "countBelow", "(J)I"⟩ : MethodName) prog_26_method_6_code 8 (some .int) :: ws) ({ frames := 0, cells := 0, slots := 0, locals := 0 } : Room)) (fun a U => a = #[(.ref a1), (.long q2)] ∧ Z.Warmed39 U.vm ∧ U.heap = h0) (fun _ _ _ _ _ => True) (fun _ U o U' => ∃ v L, o = .returned v ∧ Q6 Z a1 q2 sl mm mv N h0 n0 v U'.heap L ∧ FrameEnd U o U' L ({ frames := 0, cells := 0, slots := 0, locals := 0 } : Room).cells ({ frames := 0, cells := 0, slots := 0, locals := 0 } : Room).slots) := by
  refine MetFree.of_bodySF (plainFor_of_name pn_1) hisR ?_
  intro p e s m args below meth c s₁ Bd hml0 hP hK
  obtain ⟨rfl, hZ, hh⟩ := hP
  have hx := Bd.exec
  have hby := Bd.bytes
  have hml : c.maxLocals = 8 := hml0
  have hown : s.vm.findClass "com/example/tidematch/tidematch/greedy/VertexTable" = some m.cls := findClass_of_methodNamed Bd.named
  have hnm := (name_of_methodNamed Bd.named Bd.method).1
  have X0 : Stand p l e ({ frames := 0, cells := 0, slots := 0, locals := 0 } : Room) s m #[(.ref a1), (.long q2)] below meth c s₁ [] 0 0 := Stand.of_body Bd
  have e0 : s₁.heap = h0 := by rw [← hh, Bd.state]; rfl
  have N0 := Fr.nil n0
  show Go p e below s (Q6 Z a1 q2 sl mm mv N h0 n0) ({ frames := 0, cells := 0, slots := 0, locals := 0 } : Room).cells ({ frames := 0, cells := 0, slots := 0, locals := 0 } : Room).slots _
  refine Go.via (S' := s₁.setTop (mkF m 0 #[.val (.ref a1), .val (.long q2), .second, .unset, .unset, .unset, .unset, .unset] [])) (fun t k => castTop (ef_6 m a1 q2) k) ?_
  obtain ⟨Et, Fsz, Fsl, Fmv, gsl, nesl, f, Vsl, hcnt, hN⟩ := TBp
  refine Go.via (S' := s₁.setTop (mkF m 1 #[.val (.ref a1), .val (.long q2), .second, .unset, .unset, .unset, .unset, .unset] [(.int (0 : Int32))])) (fun _ k => XS.iconst X0.here hx rfl (hb hby d6_0) k) ?_
  refine Go.via (S' := s₁.setTop (mkF m 2 #[.val (.ref a1), .val (.long q2), .second, .val (.int (0 : Int32)), .unset, .unset, .unset, .unset] [])) (fun _ k => XS.istoreN X0.here hx rfl (hb hby d6_1) rfl (l' := #[.val (.ref a1), .val (.long q2), .second, .val (.int (0 : Int32)), .unset, .unset, .unset, .unset]) rfl k) ?_
  refine Go.via (S' := s₁.setTop (mkF m 3 #[.val (.ref a1), .val (.long q2), .second, .val (.int (0 : Int32)), .unset, .unset, .unset, .unset] [(.ref a1)])) (fun _ k => XS.aloadN X0.here hx rfl (hb hby d6_2) rfl rfl k) ?_
  obtain ⟨T1, X1, e1, st1⟩ := getF X0 hx hZ hown (host := "") (Or.inl (hw _ (List.mem_of_getElem? (i := 18) rfl))) Via.refl e0 Fsl (g := (mkF m 3 #[.val (.ref a1), .val (.long q2), .second, .val (.int (0 : Int32)), .unset, .unset, .unset, .unset] [(.ref a1)])) rfl rfl (hb hby d6_3)
  refine Go.via (S' := T1.setTop (mkF m 6 #[.val (.ref a1), .val (.long q2), .second, .val (.int (0 : Int32)), .unset, .unset, .unset, .unset] [(.ref sl)])) (fun _ k => st1 _ k) ?_
  refine Go.via (S' := T1.setTop (mkF m 8 #[.val (.ref a1), .val (.long q2), .second, .val (.int (0 : Int32)), .val (.ref sl), .unset, .unset, .unset] [])) (fun _ k => XS.astore X1.here hx rfl (hb hby d6_6) rfl rfl (l' := #[.val (.ref a1), .val (.long q2), .second, .val (.int (0 : Int32)), .val (.ref sl), .unset, .unset, .unset]) rfl k) ?_
  refine Go.via (S' := T1.setTop (mkF m 10 #[.val (.ref a1), .val (.long q2), .second, .val (.int (0 : Int32)), .val (.ref sl), .unset, .unset, .unset] [(.ref sl)])) (fun _ k => XS.aload X1.here hx rfl (hb hby d6_8) rfl rfl k) ?_
  obtain ⟨c2, Ar2, S2, -⟩ := id Vsl
  refine Go.via (S' := T1.setTop (mkF m 11 #[.val (.ref a1), .val (.long q2), .second, .val (.int (0 : Int32)), .val (.ref sl), .unset, .unset, .unset] [(.int c2.slots.size.toInt32)])) (fun _ k => X1.arraylength hx (by rw [e1]; exact Ar2.1) (State.isArrayOf_alike hZ.alike Ar2.2.1) (g := (mkF m 10 #[.val (.ref a1), .val (.long q2), .second, .val (.int (0 : Int32)), .val (.ref sl), .unset, .unset, .unset] [(.ref sl)])) rfl rfl (hb hby d6_10) _ k) ?_
  rw [S2]
  show Go p e below s (Q6 Z a1 q2 sl mm mv N h0 n0) ({ frames := 0, cells := 0, slots := 0, locals := 0 } : Room).cells ({ frames := 0, cells := 0, slots := 0, locals := 0 } : Room).slots (T1.setTop (mkF m 11 #[.val (.ref a1), .val (.long q2), .second, .val (.int (0 : Int32)), .val (.ref sl), .unset, .unset, .unset] [(.int (16 : Int32))]))
  refine Go.via (S' := T1.setTop (mkF m 13 #[.val (.ref a1), .val (.long q2), .second, .val (.int (0 : Int32)), .val (.ref sl), .val (.int (16 : Int32)), .unset, .unset] [])) (fun _ k => XS.istore X1.here hx rfl (hb hby d6_11) rfl (l' := #[.val (.ref a1), .val (.long q2), .second, .val (.int (0 : Int32)), .val (.ref sl), .val (.int (16 : Int32)), .unset, .unset]) rfl k) ?_
  refine Go.via (S' := T1.setTop (mkF m 14 #[.val (.ref a1), .val (.long q2), .second, .val (.int (0 : Int32)), .val (.ref sl), .val (.int (16 : Int32)), .unset, .unset] [(.int (0 : Int32))])) (fun _ k => XS.iconst X1.here hx rfl (hb hby d6_13) k) ?_
  refine Go.via (S' := T1.setTop (mkF m 16 #[.val (.ref a1), .val (.long q2), .second, .val (.int (0 : Int32)), .val (.ref sl), .val (.int (16 : Int32)), .val (.int (0 : Int32)), .unset] [])) (fun _ k => XS.istore X1.here hx rfl (hb hby d6_14) rfl (l' := #[.val (.ref a1), .val (.long q2), .second, .val (.int (0 : Int32)), .val (.ref sl), .val (.int (16 : Int32)), .val (.int (0 : Int32)), .unset]) rfl k) ?_
  suffices LP : ∀ (k : Nat) (i : Nat) (c_ : Nat) (s7 : Slot) (hik : i + k = 16) (hcn : c_ = own_num (own_lim q2) f i) (hs7 : One s7), Go p e below s (Q6 Z a1 q2 sl mm mv N h0 n0) ({ frames := 0, cells := 0, slots := 0, locals := 0 } : Room).cells ({ frames := 0, cells := 0, slots := 0, locals := 0 } : Room).slots (T1.setTop (mkF m 16 #[.val (.ref a1), .val (.long q2), .second, .val (.int (Int32.ofNat c_)), .val (.ref sl), .val (.int (16 : Int32)), .val (.int (Int32.ofNat i)), s7] [])) by
    exact LP 16 0 0 _ rfl rfl One.u
  intro k
  induction k with
  | zero =>
    intro i c_ s7 hik hcn hs7
    refine Go.via (S' := T1.setTop (mkF m 18 #[.val (.ref a1), .val (.long q2), .second, .val (.int (Int32.ofNat c_)), .val (.ref sl), .val (.int (16 : Int32)), .val (.int (Int32.ofNat i)), s7] [(.int (Int32.ofNat i))])) (fun _ k => XS.iload X1.here hx rfl (hb hby d6_16) rfl k) ?_
    refine Go.via (S' := T1.setTop (mkF m 20 #[.val (.ref a1), .val (.long q2), .second, .val (.int (Int32.ofNat c_)), .val (.ref sl), .val (.int (16 : Int32)), .val (.int (Int32.ofNat i)), s7] [(.int (16 : Int32)), (.int (Int32.ofNat i))])) (fun _ k => XS.iload X1.here hx rfl (hb hby d6_18) rfl k) ?_
    refine Go.via (S' := T1.setTop (mkF m 53 #[.val (.ref a1), .val (.long q2), .second, .val (.int (Int32.ofNat c_)), .val (.ref sl), .val (.int (16 : Int32)), .val (.int (Int32.ofNat i)), s7] [])) (fun _ k => XS.icmpYes X1.here hx rfl (pc0 := 20) (pc' := 53) rfl (hb hby d6_20) rfl (flt (fun q => by have := (own_lt (i := i) (n := 16) (by omega) (by decide)).mp q; omega)).2.1 (by decide) (by decide) k) ?_
    refine Go.via (S' := T1.setTop (mkF m 54 #[.val (.ref a1), .val (.long q2), .second, .val (.int (Int32.ofNat c_)), .val (.ref sl), .val (.int (16 : Int32)), .val (.int (Int32.ofNat i)), s7] [(.int (Int32.ofNat c_))])) (fun _ k => XS.iloadN X1.here hx rfl (hb hby d6_53) rfl k) ?_
    exact Go.retI X1 hx (BodyLoose.notSynchronized Bd) Bd.returns (hb hby d6_54) (by rw [e1]; exact ⟨congrArg (fun z => some (Value.int (Int32.ofNat z))) (by rw [hcn, show i = 16 by omega, hN]), N0, rfl⟩) (by decide) (by decide)
  | succ k ih =>
    intro i c_ s7 hik hcn hs7
    refine Go.via (S' := T1.setTop (mkF m 18 #[.val (.ref a1), .val (.long q2), .second, .val (.int (Int32.ofNat c_)), .val (.ref sl), .val (.int (16 : Int32)), .val (.int (Int32.ofNat i)), s7] [(.int (Int32.ofNat i))])) (fun _ k => XS.iload X1.here hx rfl (hb hby d6_16) rfl k) ?_
    refine Go.via (S' := T1.setTop (mkF m 20 #[.val (.ref a1), .val (.long q2), .second, .val (.int (Int32.ofNat c_)), .val (.ref sl), .val (.int (16 : Int32)), .val (.int (Int32.ofNat i)), s7] [(.int (16 : Int32)), (.int (Int32.ofNat i))])) (fun _ k => XS.iload X1.here hx rfl (hb hby d6_18) rfl k) ?_
    refine Go.via (S' := T1.setTop (mkF m 23 #[.val (.ref a1), .val (.long q2), .second, .val (.int (Int32.ofNat c_)), .val (.ref sl), .val (.int (16 : Int32)), .val (.int (Int32.ofNat i)), s7] [])) (fun _ k => XS.icmpNo X1.here hx rfl (hb hby d6_20) rfl (tlt ((own_lt (i := i) (n := 16) (by omega) (by decide)).mpr (by omega))).2.1 k) ?_
    refine Go.via (S' := T1.setTop (mkF m 25 #[.val (.ref a1), .val (.long q2), .second, .val (.int (Int32.ofNat c_)), .val (.ref sl), .val (.int (16 : Int32)), .val (.int (Int32.ofNat i)), s7] [(.ref sl)])) (fun _ k => XS.aload X1.here hx rfl (hb hby d6_23) rfl rfl k) ?_
    refine Go.via (S' := T1.setTop (mkF m 27 #[.val (.ref a1), .val (.long q2), .second, .val (.int (Int32.ofNat c_)), .val (.ref sl), .val (.int (16 : Int32)), .val (.int (Int32.ofNat i)), s7] [(.int (Int32.ofNat i)), (.ref sl)])) (fun _ k => XS.iload X1.here hx rfl (hb hby d6_25) rfl k) ?_
    obtain ⟨c3, Ar3, S3, H3⟩ := id Vsl
    have in3 : ¬ ((Int32.ofNat i) < 0 ∨ c3.slots.size ≤ ((Int32.ofNat i)).toNatClampNeg) := by
      rw [S3, own_ncl (show i < 2 ^ 31 by omega)]
      exact fun q => q.elim (own_nn (show i < 2 ^ 31 by omega)) (Nat.not_le.mpr (show i < 16 by omega))
    refine Go.via (S' := T1.setTop (mkF m 28 #[.val (.ref a1), .val (.long q2), .second, .val (.int (Int32.ofNat c_)), .val (.ref sl), .val (.int (16 : Int32)), .val (.int (Int32.ofNat i)), s7] [(.int (f i))])) (fun _ k => X1.iaload hx (j := (Int32.ofNat i)) (v := .int (f i)) (by rw [e1]; exact Ar3.1) (State.isArrayOf_alike hZ.alike Ar3.2.1) Ar3.2.2 in3 (by rw [own_ncl (show i < 2 ^ 31 by omega)]; exact H3 _ (show i < 16 by omega)) (g := (mkF m 27 #[.val (.ref a1), .val (.long q2), .second, .val (.int (Int32.ofNat c_)), .val (.ref sl), .val (.int (16 : Int32)), .val (.int (Int32.ofNat i)), s7] [(.int (Int32.ofNat i)), (.ref sl)])) rfl rfl (hb hby d6_27) _ k) ?_
    refine Go.via (S' := T1.setTop (mkF m 30 #[.val (.ref a1), .val (.long q2), .second, .val (.int (Int32.ofNat c_)), .val (.ref sl), .val (.int (16 : Int32)), .val (.int (Int32.ofNat i)), .val (.int (f i))] [])) (fun _ k => XS.istoreS X1.here hx rfl (hb hby d6_28) rfl rfl hs7 k) ?_
    refine Go.via (S' := T1.setTop (mkF m 32 #[.val (.ref a1), .val (.long q2), .second, .val (.int (Int32.ofNat c_)), .val (.ref sl), .val (.int (16 : Int32)), .val (.int (Int32.ofNat i)), .val (.int (f i))] [(.int (f i))])) (fun _ k => XS.iload X1.here hx rfl (hb hby d6_30) rfl k) ?_
    refine Go.via (S' := T1.setTop (mkF m 33 #[.val (.ref a1), .val (.long q2), .second, .val (.int (Int32.ofNat c_)), .val (.ref sl), .val (.int (16 : Int32)), .val (.int (Int32.ofNat i)), .val (.int (f i))] [(.int (-1 : Int32)), (.int (f i))])) (fun _ k => XS.iconst X1.here hx rfl (hb hby d6_32) k) ?_
    rcases Decidable.em ((f i) = (-1 : Int32)) with hc33 | hc33
    · refine Go.via (S' := T1.setTop (mkF m 47 #[.val (.ref a1), .val (.long q2), .second, .val (.int (Int32.ofNat c_)), .val (.ref sl), .val (.int (16 : Int32)), .val (.int (Int32.ofNat i)), .val (.int (f i))] [])) (fun _ k => XS.icmpYes X1.here hx rfl (pc0 := 33) (pc' := 47) rfl (hb hby d6_33) rfl (teq hc33).1 (by decide) (by decide) k) ?_
      refine Go.via (S' := T1.setTop (mkF m 50 #[.val (.ref a1), .val (.long q2), .second, .val (.int (Int32.ofNat c_)), .val (.ref sl), .val (.int (16 : Int32)), .val (.int ((Int32.ofNat i) + (1 : Int32))), .val (.int (f i))] [])) (fun _ k => XS.iinc X1.here hx rfl (hb hby d6_47) rfl (l' := #[.val (.ref a1), .val (.long q2), .second, .val (.int (Int32.ofNat c_)), .val (.ref sl), .val (.int (16 : Int32)), .val (.int ((Int32.ofNat i) + (1 : Int32))), .val (.int (f i))]) rfl k) ?_
      refine Go.via (S' := T1.setTop (mkF m 16 #[.val (.ref a1), .val (.long q2), .second, .val (.int (Int32.ofNat c_)), .val (.ref sl), .val (.int (16 : Int32)), .val (.int ((Int32.ofNat i) + (1 : Int32))), .val (.int (f i))] [])) (fun _ k => XS.goto X1.here hx rfl (pc0 := 50) (pc' := 16) rfl (hb hby d6_50) (by decide) (by decide) k) ?_
      rw [own_succ]
      exact ih (i + 1) c_ _ (by omega) (by simp [own_num, own_lim, hcn, hc33]) (One.val rfl)
    · refine Go.via (S' := T1.setTop (mkF m 36 #[.val (.ref a1), .val (.long q2), .second, .val (.int (Int32.ofNat c_)), .val (.ref sl), .val (.int (16 : Int32)), .val (.int (Int32.ofNat i)), .val (.int (f i))] [])) (fun _ k => XS.icmpNo X1.here hx rfl (hb hby d6_33) rfl (feq hc33).1 k) ?_
      refine Go.via (S' := T1.setTop (mkF m 38 #[.val (.ref a1), .val (.long q2), .second, .val (.int (Int32.ofNat c_)), .val (.ref sl), .val (.int (16 : Int32)), .val (.int (Int32.ofNat i)), .val (.int (f i))] [(.int (f i))])) (fun _ k => XS.iload X1.here hx rfl (hb hby d6_36) rfl k) ?_
      refine Go.via (S' := T1.setTop (mkF m 39 #[.val (.ref a1), .val (.long q2), .second, .val (.int (Int32.ofNat c_)), .val (.ref sl), .val (.int (16 : Int32)), .val (.int (Int32.ofNat i)), .val (.int (f i))] [(.long ((f i).toInt64))])) (fun _ k => XS.i2l X1.here hx rfl (hb hby d6_38) rfl k) ?_
      refine Go.via (S' := T1.setTop (mkF m 40 #[.val (.ref a1), .val (.long q2), .second, .val (.int (Int32.ofNat c_)), .val (.ref sl), .val (.int (16 : Int32)), .val (.int (Int32.ofNat i)), .val (.int (f i))] [(.long q2), (.long ((f i).toInt64))])) (fun _ k => XS.lloadN X1.here hx rfl (hb hby d6_39) rfl k) ?_
      refine Go.via (S' := T1.setTop (mkF m 41 #[.val (.ref a1), .val (.long q2), .second, .val (.int (Int32.ofNat c_)), .val (.ref sl), .val (.int (16 : Int32)), .val (.int (Int32.ofNat i)), .val (.int (f i))] [(.int (lcmpW ((f i).toInt64) q2))])) (fun _ k => XS.lcmp X1.here hx rfl (hb hby d6_40) rfl k) ?_
      rcases Decidable.em (((f i).toInt64) < q2) with hc41 | hc41
      · refine Go.via (S' := T1.setTop (mkF m 44 #[.val (.ref a1), .val (.long q2), .second, .val (.int (Int32.ofNat c_)), .val (.ref sl), .val (.int (16 : Int32)), .val (.int (Int32.ofNat i)), .val (.int (f i))] [])) (fun _ k => XS.ifNo X1.here hx rfl (hb hby d6_41) rfl ((if0 _ _).trans (tlt (own_lc1 hc41)).2.1) k) ?_
        refine Go.via (S' := T1.setTop (mkF m 47 #[.val (.ref a1), .val (.long q2), .second, .val (.int ((Int32.ofNat c_) + (1 : Int32))), .val (.ref sl), .val (.int (16 : Int32)), .val (.int (Int32.ofNat i)), .val (.int (f i))] [])) (fun _ k => XS.iinc X1.here hx rfl (hb hby d6_44) rfl (l' := #[.val (.ref a1), .val (.long q2), .second, .val (.int ((Int32.ofNat c_) + (1 : Int32))), .val (.ref sl), .val (.int (16 : Int32)), .val (.int (Int32.ofNat i)), .val (.int (f i))]) rfl k) ?_
        refine Go.via (S' := T1.setTop (mkF m 50 #[.val (.ref a1), .val (.long q2), .second, .val (.int ((Int32.ofNat c_) + (1 : Int32))), .val (.ref sl), .val (.int (16 : Int32)), .val (.int ((Int32.ofNat i) + (1 : Int32))), .val (.int (f i))] [])) (fun _ k => XS.iinc X1.here hx rfl (hb hby d6_47) rfl (l' := #[.val (.ref a1), .val (.long q2), .second, .val (.int ((Int32.ofNat c_) + (1 : Int32))), .val (.ref sl), .val (.int (16 : Int32)), .val (.int ((Int32.ofNat i) + (1 : Int32))), .val (.int (f i))]) rfl k) ?_
        refine Go.via (S' := T1.setTop (mkF m 16 #[.val (.ref a1), .val (.long q2), .second, .val (.int ((Int32.ofNat c_) + (1 : Int32))), .val (.ref sl), .val (.int (16 : Int32)), .val (.int ((Int32.ofNat i) + (1 : Int32))), .val (.int (f i))] [])) (fun _ k => XS.goto X1.here hx rfl (pc0 := 50) (pc' := 16) rfl (hb hby d6_50) (by decide) (by decide) k) ?_
        rw [own_succ, own_succ]
        exact ih (i + 1) (c_ + 1) _ (by omega) (by simp [own_num, own_lim, hcn, hc33, hc41]) (One.val rfl)
      · refine Go.via (S' := T1.setTop (mkF m 47 #[.val (.ref a1), .val (.long q2), .second, .val (.int (Int32.ofNat c_)), .val (.ref sl), .val (.int (16 : Int32)), .val (.int (Int32.ofNat i)), .val (.int (f i))] [])) (fun _ k => XS.ifYes X1.here hx rfl (pc0 := 41) (pc' := 47) rfl (hb hby d6_41) rfl ((if0 _ _).trans (flt (own_lc2 hc41)).2.1) (by decide) (by decide) k) ?_
        refine Go.via (S' := T1.setTop (mkF m 50 #[.val (.ref a1), .val (.long q2), .second, .val (.int (Int32.ofNat c_)), .val (.ref sl), .val (.int (16 : Int32)), .val (.int ((Int32.ofNat i) + (1 : Int32))), .val (.int (f i))] [])) (fun _ k => XS.iinc X1.here hx rfl (hb hby d6_47) rfl (l' := #[.val (.ref a1), .val (.long q2), .second, .val (.int (Int32.ofNat c_)), .val (.ref sl), .val (.int (16 : Int32)), .val (.int ((Int32.ofNat i) + (1 : Int32))), .val (.int (f i))]) rfl k) ?_
        refine Go.via (S' := T1.setTop (mkF m 16 #[.val (.ref a1), .val (.long q2), .second, .val (.int (Int32.ofNat c_)), .val (.ref sl), .val (.int (16 : Int32)), .val (.int ((Int32.ofNat i) + (1 : Int32))), .val (.int (f i))] [])) (fun _ k => XS.goto X1.here hx rfl (pc0 := 50) (pc' := 16) rfl (hb hby d6_50) (by decide) (by decide) k) ?_
        rw [own_succ]
        exact ih (i + 1) c_ _ (by omega) (by simp [own_num, own_lim, hcn, hc33, hc41]) (One.val rfl)
theorem pd_4 : parseMethodDescriptor "(Z)V" = some ⟨[.boolean], none⟩ := by decide +kernel
theorem pd_5 : parseMethodDescriptor "(ZIJ)I" = some ⟨[.boolean, .int, .long], some .int⟩ := by decide +kernel
theorem pd_6 : parseMethodDescriptor "(J)I" = some ⟨[.long], some .int⟩ := by decide +kernel
theorem ef_0 (m : MethodId) (x0 : Int32) (x1 : Int32) (x2 : Int32) (x3 : Int32) (x4 : Int64) : entryFrame m #[(.int x0), (.int x1), (.int x2), (.int x3), (.long x4)] maxLocals = mkF m 0 #[.val (.int x0), .val (.int x1), .val (.int x2), .val (.int x3), .val (.long x4), .second, .unset, .unset, .unset, .unset, .unset, .unset, .unset, .unset, .unset, .unset, .unset, .unset, .unset] [] := by first | (simp [entryFrame, mkF, argsToLocals, Value.category, maxLocals]; done) | rfl
def Q0 (Z : State) (p1 : Int32) (p2 : Int32) (p3 : Int32) (p4 : Int32) (q5 : Int64) (h0 : Heap) (n0 : Nat) (v : Option Value) (h : Heap) (L : List Loc) : Prop := v = some (.int 1) ∧ Fr n0 L
set_option maxRecDepth 65536 in
set_option maxHeartbeats 40000000 in
theorem rm0 (l : Launch) (Z : State) (a0 : Array Value) (hw : ∀ d ∈ tables_1, d.before a0 Z = true) (ws : List Jvm.Cond) (p1 : Int32) (p2 : Int32) (p3 : Int32) (p4 : Int32) (q5 : Int64) (h0 : Heap) (n0 : Nat) (Z0 : n0 ≤ h0.size) :
    MetFree l x (head1 (Jvm.Cond.code x code maxLocals ret :: ws) room_1) (fun a U => a = #[(.int p1), (.int p2), (.int p3), (.int p4), (.long q5)] ∧ Z.Warmed39 U.vm ∧ U.heap = h0) (fun _ _ _ _ _ => True) (fun _ U o U' => ∃ v L, o = .returned v ∧ Q0 Z p1 p2 p3 p4 q5 h0 n0 v U'.heap L ∧ FrameEnd U o U' L room_1.cells room_1.slots) := by
  refine MetFree.of_bodySF (plainFor_of_name pn_3) hisR ?_
  intro p e s m args below meth c s₁ Bd hml0 hP hK
  obtain ⟨rfl, hZ, hh⟩ := hP
  have hx := Bd.exec
  have hby := Bd.bytes
  have hml : c.maxLocals = 19 := hml0
  have hown : s.vm.findClass "com/example/tidematch/tidematch/greedy/VertexTableCountBelowPinLaw" = some m.cls := findClass_of_methodNamed Bd.named
  have hnm := (name_of_methodNamed Bd.named Bd.method).1
  have X0 : Stand p l e room_1 s m #[(.int p1), (.int p2), (.int p3), (.int p4), (.long q5)] below meth c s₁ [] 0 0 := Stand.of_body Bd
  have e0 : s₁.heap = h0 := by rw [← hh, Bd.state]; rfl
  have N0 := Fr.nil n0
  show Go p e below s (Q0 Z p1 p2 p3 p4 q5 h0 n0) room_1.cells room_1.slots _
  refine Go.via (S' := s₁.setTop (mkF m 0 #[.val (.int p1), .val (.int p2), .val (.int p3), .val (.int p4), .val (.long q5), .second, .unset, .unset, .unset, .unset, .unset, .unset, .unset, .unset, .unset, .unset, .unset, .unset, .unset] [])) (fun t k => castTop (ef_0 m p1 p2 p3 p4 q5) k) ?_
  suffices J11 : ∀ (kp : Int32), Go p e below s (Q0 Z p1 p2 p3 p4 q5 h0 n0) room_1.cells room_1.slots (s₁.setTop (mkF m 11 #[.val (.int p1), .val (.int p2), .val (.int p3), .val (.int p4), .val (.long q5), .second, .unset, .unset, .unset, .unset, .unset, .unset, .unset, .unset, .unset, .unset, .unset, .unset, .unset] [(.int kp)])) by
    refine Go.via (S' := s₁.setTop (mkF m 1 #[.val (.int p1), .val (.int p2), .val (.int p3), .val (.int p4), .val (.long q5), .second, .unset, .unset, .unset, .unset, .unset, .unset, .unset, .unset, .unset, .unset, .unset, .unset, .unset] [(.int p4)])) (fun _ k => XS.iloadN X0.here hx rfl (hb hby at_0) rfl k) ?_
    refine Go.via (S' := s₁.setTop (mkF m 2 #[.val (.int p1), .val (.int p2), .val (.int p3), .val (.int p4), .val (.long q5), .second, .unset, .unset, .unset, .unset, .unset, .unset, .unset, .unset, .unset, .unset, .unset, .unset, .unset] [(.int (1 : Int32)), (.int p4)])) (fun _ k => XS.iconst X0.here hx rfl (hb hby at_1) k) ?_
    refine Go.via (S' := s₁.setTop (mkF m 3 #[.val (.int p1), .val (.int p2), .val (.int p3), .val (.int p4), .val (.long q5), .second, .unset, .unset, .unset, .unset, .unset, .unset, .unset, .unset, .unset, .unset, .unset, .unset, .unset] [(.int (p4 &&& (1 : Int32)))])) (fun _ k => XS.iand X0.here hx rfl (hb hby at_2) rfl k) ?_
    rcases Decidable.em ((p4 &&& (1 : Int32)) = (0 : Int32)) with hc3 | hc3
    · refine Go.via (S' := s₁.setTop (mkF m 10 #[.val (.int p1), .val (.int p2), .val (.int p3), .val (.int p4), .val (.long q5), .second, .unset, .unset, .unset, .unset, .unset, .unset, .unset, .unset, .unset, .unset, .unset, .unset, .unset] [])) (fun _ k => XS.ifYes X0.here hx rfl (pc0 := 3) (pc' := 10) rfl (hb hby at_3) rfl ((if0 _ _).trans (teq hc3).1) (by decide) (by decide) k) ?_
      refine Go.via (S' := s₁.setTop (mkF m 11 #[.val (.int p1), .val (.int p2), .val (.int p3), .val (.int p4), .val (.long q5), .second, .unset, .unset, .unset, .unset, .unset, .unset, .unset, .unset, .unset, .unset, .unset, .unset, .unset] [(.int (0 : Int32))])) (fun _ k => XS.iconst X0.here hx rfl (hb hby at_10) k) ?_
      exact J11 _
    · refine Go.via (S' := s₁.setTop (mkF m 6 #[.val (.int p1), .val (.int p2), .val (.int p3), .val (.int p4), .val (.long q5), .second, .unset, .unset, .unset, .unset, .unset, .unset, .unset, .unset, .unset, .unset, .unset, .unset, .unset] [])) (fun _ k => XS.ifNo X0.here hx rfl (hb hby at_3) rfl ((if0 _ _).trans (feq hc3).1) k) ?_
      refine Go.via (S' := s₁.setTop (mkF m 7 #[.val (.int p1), .val (.int p2), .val (.int p3), .val (.int p4), .val (.long q5), .second, .unset, .unset, .unset, .unset, .unset, .unset, .unset, .unset, .unset, .unset, .unset, .unset, .unset] [(.int (1 : Int32))])) (fun _ k => XS.iconst X0.here hx rfl (hb hby at_6) k) ?_
      refine Go.via (S' := s₁.setTop (mkF m 11 #[.val (.int p1), .val (.int p2), .val (.int p3), .val (.int p4), .val (.long q5), .second, .unset, .unset, .unset, .unset, .unset, .unset, .unset, .unset, .unset, .unset, .unset, .unset, .unset] [(.int (1 : Int32))])) (fun _ k => XS.goto X0.here hx rfl (pc0 := 7) (pc' := 11) rfl (hb hby at_7) (by decide) (by decide) k) ?_
      exact J11 _
  intro kp
  refine Go.via (S' := s₁.setTop (mkF m 13 #[.val (.int p1), .val (.int p2), .val (.int p3), .val (.int p4), .val (.long q5), .second, .val (.int kp), .unset, .unset, .unset, .unset, .unset, .unset, .unset, .unset, .unset, .unset, .unset, .unset] [])) (fun _ k => XS.istore X0.here hx rfl (hb hby at_11) rfl (l' := #[.val (.int p1), .val (.int p2), .val (.int p3), .val (.int p4), .val (.long q5), .second, .val (.int kp), .unset, .unset, .unset, .unset, .unset, .unset, .unset, .unset, .unset, .unset, .unset, .unset]) rfl k) ?_
  refine Go.via (S' := s₁.setTop (mkF m 14 #[.val (.int p1), .val (.int p2), .val (.int p3), .val (.int p4), .val (.long q5), .second, .val (.int kp), .unset, .unset, .unset, .unset, .unset, .unset, .unset, .unset, .unset, .unset, .unset, .unset] [(.int p4)])) (fun _ k => XS.iloadN X0.here hx rfl (hb hby at_13) rfl k) ?_
  refine Go.via (S' := s₁.setTop (mkF m 15 #[.val (.int p1), .val (.int p2), .val (.int p3), .val (.int p4), .val (.long q5), .second, .val (.int kp), .unset, .unset, .unset, .unset, .unset, .unset, .unset, .unset, .unset, .unset, .unset, .unset] [(.int (1 : Int32)), (.int p4)])) (fun _ k => XS.iconst X0.here hx rfl (hb hby at_14) k) ?_
  refine Go.via (S' := s₁.setTop (mkF m 16 #[.val (.int p1), .val (.int p2), .val (.int p3), .val (.int p4), .val (.long q5), .second, .val (.int kp), .unset, .unset, .unset, .unset, .unset, .unset, .unset, .unset, .unset, .unset, .unset, .unset] [(.int ((p4.toUInt32 >>> ((1 : Int32) &&& 31).toUInt32).toInt32))])) (fun _ k => XS.iushr X0.here hx rfl (hb hby at_15) rfl k) ?_
  refine Go.via (S' := s₁.setTop (mkF m 17 #[.val (.int p1), .val (.int p2), .val (.int p3), .val (.int p4), .val (.long q5), .second, .val (.int kp), .unset, .unset, .unset, .unset, .unset, .unset, .unset, .unset, .unset, .unset, .unset, .unset] [(.int (3 : Int32)), (.int ((p4.toUInt32 >>> ((1 : Int32) &&& 31).toUInt32).toInt32))])) (fun _ k => XS.iconst X0.here hx rfl (hb hby at_16) k) ?_
  refine Go.via (S' := s₁.setTop (mkF m 18 #[.val (.int p1), .val (.int p2), .val (.int p3), .val (.int p4), .val (.long q5), .second, .val (.int kp), .unset, .unset, .unset, .unset, .unset, .unset, .unset, .unset, .unset, .unset, .unset, .unset] [(.int (((p4.toUInt32 >>> ((1 : Int32) &&& 31).toUInt32).toInt32) &&& (3 : Int32)))])) (fun _ k => XS.iand X0.here hx rfl (hb hby at_17) rfl k) ?_
  refine Go.via (S' := s₁.setTop (mkF m 20 #[.val (.int p1), .val (.int p2), .val (.int p3), .val (.int p4), .val (.long q5), .second, .val (.int kp), .val (.int (((p4.toUInt32 >>> ((1 : Int32) &&& 31).toUInt32).toInt32) &&& (3 : Int32))), .unset, .unset, .unset, .unset, .unset, .unset, .unset, .unset, .unset, .unset, .unset] [])) (fun _ k => XS.istore X0.here hx rfl (hb hby at_18) rfl (l' := #[.val (.int p1), .val (.int p2), .val (.int p3), .val (.int p4), .val (.long q5), .second, .val (.int kp), .val (.int (((p4.toUInt32 >>> ((1 : Int32) &&& 31).toUInt32).toInt32) &&& (3 : Int32))), .unset, .unset, .unset, .unset, .unset, .unset, .unset, .unset, .unset, .unset, .unset]) rfl k) ?_
  refine Go.via (S' := s₁.setTop (mkF m 21 #[.val (.int p1), .val (.int p2), .val (.int p3), .val (.int p4), .val (.long q5), .second, .val (.int kp), .val (.int (((p4.toUInt32 >>> ((1 : Int32) &&& 31).toUInt32).toInt32) &&& (3 : Int32))), .unset, .unset, .unset, .unset, .unset, .unset, .unset, .unset, .unset, .unset, .unset] [(.int p1)])) (fun _ k => XS.iloadN X0.here hx rfl (hb hby at_20) rfl k) ?_
  refine Go.via (S' := s₁.setTop (mkF m 23 #[.val (.int p1), .val (.int p2), .val (.int p3), .val (.int p4), .val (.long q5), .second, .val (.int kp), .val (.int (((p4.toUInt32 >>> ((1 : Int32) &&& 31).toUInt32).toInt32) &&& (3 : Int32))), .unset, .unset, .unset, .unset, .unset, .unset, .unset, .unset, .unset, .unset, .unset] [(.int (2147483647 : Int32)), (.int p1)])) (fun _ k => X0.ldcInt hx hown (mvT hZ (hw _ (List.mem_of_getElem? (i := 0) rfl))) (g := (mkF m 21 #[.val (.int p1), .val (.int p2), .val (.int p3), .val (.int p4), .val (.long q5), .second, .val (.int kp), .val (.int (((p4.toUInt32 >>> ((1 : Int32) &&& 31).toUInt32).toInt32) &&& (3 : Int32))), .unset, .unset, .unset, .unset, .unset, .unset, .unset, .unset, .unset, .unset, .unset] [(.int p1)])) rfl (hb hby at_21) _ k) ?_
  refine Go.via (S' := s₁.setTop (mkF m 24 #[.val (.int p1), .val (.int p2), .val (.int p3), .val (.int p4), .val (.long q5), .second, .val (.int kp), .val (.int (((p4.toUInt32 >>> ((1 : Int32) &&& 31).toUInt32).toInt32) &&& (3 : Int32))), .unset, .unset, .unset, .unset, .unset, .unset, .unset, .unset, .unset, .unset, .unset] [(.int (p1 &&& (2147483647 : Int32)))])) (fun _ k => XS.iand X0.here hx rfl (hb hby at_23) rfl k) ?_
  refine Go.via (S' := s₁.setTop (mkF m 26 #[.val (.int p1), .val (.int p2), .val (.int p3), .val (.int p4), .val (.long q5), .second, .val (.int kp), .val (.int (((p4.toUInt32 >>> ((1 : Int32) &&& 31).toUInt32).toInt32) &&& (3 : Int32))), .val (.int (p1 &&& (2147483647 : Int32))), .unset, .unset, .unset, .unset, .unset, .unset, .unset, .unset, .unset, .unset] [])) (fun _ k => XS.istore X0.here hx rfl (hb hby at_24) rfl (l' := #[.val (.int p1), .val (.int p2), .val (.int p3), .val (.int p4), .val (.long q5), .second, .val (.int kp), .val (.int (((p4.toUInt32 >>> ((1 : Int32) &&& 31).toUInt32).toInt32) &&& (3 : Int32))), .val (.int (p1 &&& (2147483647 : Int32))), .unset, .unset, .unset, .unset, .unset, .unset, .unset, .unset, .unset, .unset]) rfl k) ?_
  refine Go.via (S' := s₁.setTop (mkF m 27 #[.val (.int p1), .val (.int p2), .val (.int p3), .val (.int p4), .val (.long q5), .second, .val (.int kp), .val (.int (((p4.toUInt32 >>> ((1 : Int32) &&& 31).toUInt32).toInt32) &&& (3 : Int32))), .val (.int (p1 &&& (2147483647 : Int32))), .unset, .unset, .unset, .unset, .unset, .unset, .unset, .unset, .unset, .unset] [(.int p2)])) (fun _ k => XS.iloadN X0.here hx rfl (hb hby at_26) rfl k) ?_
  refine Go.via (S' := s₁.setTop (mkF m 29 #[.val (.int p1), .val (.int p2), .val (.int p3), .val (.int p4), .val (.long q5), .second, .val (.int kp), .val (.int (((p4.toUInt32 >>> ((1 : Int32) &&& 31).toUInt32).toInt32) &&& (3 : Int32))), .val (.int (p1 &&& (2147483647 : Int32))), .unset, .unset, .unset, .unset, .unset, .unset, .unset, .unset, .unset, .unset] [(.int (2147483647 : Int32)), (.int p2)])) (fun _ k => X0.ldcInt hx hown (mvT hZ (hw _ (List.mem_of_getElem? (i := 0) rfl))) (g := (mkF m 27 #[.val (.int p1), .val (.int p2), .val (.int p3), .val (.int p4), .val (.long q5), .second, .val (.int kp), .val (.int (((p4.toUInt32 >>> ((1 : Int32) &&& 31).toUInt32).toInt32) &&& (3 : Int32))), .val (.int (p1 &&& (2147483647 : Int32))), .unset, .unset, .unset, .unset, .unset, .unset, .unset, .unset, .unset, .unset] [(.int p2)])) rfl (hb hby at_27) _ k) ?_
  refine Go.via (S' := s₁.setTop (mkF m 30 #[.val (.int p1), .val (.int p2), .val (.int p3), .val (.int p4), .val (.long q5), .second, .val (.int kp), .val (.int (((p4.toUInt32 >>> ((1 : Int32) &&& 31).toUInt32).toInt32) &&& (3 : Int32))), .val (.int (p1 &&& (2147483647 : Int32))), .unset, .unset, .unset, .unset, .unset, .unset, .unset, .unset, .unset, .unset] [(.int (p2 &&& (2147483647 : Int32)))])) (fun _ k => XS.iand X0.here hx rfl (hb hby at_29) rfl k) ?_
  refine Go.via (S' := s₁.setTop (mkF m 32 #[.val (.int p1), .val (.int p2), .val (.int p3), .val (.int p4), .val (.long q5), .second, .val (.int kp), .val (.int (((p4.toUInt32 >>> ((1 : Int32) &&& 31).toUInt32).toInt32) &&& (3 : Int32))), .val (.int (p1 &&& (2147483647 : Int32))), .val (.int (p2 &&& (2147483647 : Int32))), .unset, .unset, .unset, .unset, .unset, .unset, .unset, .unset, .unset] [])) (fun _ k => XS.istore X0.here hx rfl (hb hby at_30) rfl (l' := #[.val (.int p1), .val (.int p2), .val (.int p3), .val (.int p4), .val (.long q5), .second, .val (.int kp), .val (.int (((p4.toUInt32 >>> ((1 : Int32) &&& 31).toUInt32).toInt32) &&& (3 : Int32))), .val (.int (p1 &&& (2147483647 : Int32))), .val (.int (p2 &&& (2147483647 : Int32))), .unset, .unset, .unset, .unset, .unset, .unset, .unset, .unset, .unset]) rfl k) ?_
  refine Go.via (S' := s₁.setTop (mkF m 33 #[.val (.int p1), .val (.int p2), .val (.int p3), .val (.int p4), .val (.long q5), .second, .val (.int kp), .val (.int (((p4.toUInt32 >>> ((1 : Int32) &&& 31).toUInt32).toInt32) &&& (3 : Int32))), .val (.int (p1 &&& (2147483647 : Int32))), .val (.int (p2 &&& (2147483647 : Int32))), .unset, .unset, .unset, .unset, .unset, .unset, .unset, .unset, .unset] [(.int p3)])) (fun _ k => XS.iloadN X0.here hx rfl (hb hby at_32) rfl k) ?_
  refine Go.via (S' := s₁.setTop (mkF m 35 #[.val (.int p1), .val (.int p2), .val (.int p3), .val (.int p4), .val (.long q5), .second, .val (.int kp), .val (.int (((p4.toUInt32 >>> ((1 : Int32) &&& 31).toUInt32).toInt32) &&& (3 : Int32))), .val (.int (p1 &&& (2147483647 : Int32))), .val (.int (p2 &&& (2147483647 : Int32))), .unset, .unset, .unset, .unset, .unset, .unset, .unset, .unset, .unset] [(.int (2147483647 : Int32)), (.int p3)])) (fun _ k => X0.ldcInt hx hown (mvT hZ (hw _ (List.mem_of_getElem? (i := 0) rfl))) (g := (mkF m 33 #[.val (.int p1), .val (.int p2), .val (.int p3), .val (.int p4), .val (.long q5), .second, .val (.int kp), .val (.int (((p4.toUInt32 >>> ((1 : Int32) &&& 31).toUInt32).toInt32) &&& (3 : Int32))), .val (.int (p1 &&& (2147483647 : Int32))), .val (.int (p2 &&& (2147483647 : Int32))), .unset, .unset, .unset, .unset, .unset, .unset, .unset, .unset, .unset] [(.int p3)])) rfl (hb hby at_33) _ k) ?_
  refine Go.via (S' := s₁.setTop (mkF m 36 #[.val (.int p1), .val (.int p2), .val (.int p3), .val (.int p4), .val (.long q5), .second, .val (.int kp), .val (.int (((p4.toUInt32 >>> ((1 : Int32) &&& 31).toUInt32).toInt32) &&& (3 : Int32))), .val (.int (p1 &&& (2147483647 : Int32))), .val (.int (p2 &&& (2147483647 : Int32))), .unset, .unset, .unset, .unset, .unset, .unset, .unset, .unset, .unset] [(.int (p3 &&& (2147483647 : Int32)))])) (fun _ k => XS.iand X0.here hx rfl (hb hby at_35) rfl k) ?_
  refine Go.via (S' := s₁.setTop (mkF m 38 #[.val (.int p1), .val (.int p2), .val (.int p3), .val (.int p4), .val (.long q5), .second, .val (.int kp), .val (.int (((p4.toUInt32 >>> ((1 : Int32) &&& 31).toUInt32).toInt32) &&& (3 : Int32))), .val (.int (p1 &&& (2147483647 : Int32))), .val (.int (p2 &&& (2147483647 : Int32))), .val (.int (p3 &&& (2147483647 : Int32))), .unset, .unset, .unset, .unset, .unset, .unset, .unset, .unset] [])) (fun _ k => XS.istore X0.here hx rfl (hb hby at_36) rfl (l' := #[.val (.int p1), .val (.int p2), .val (.int p3), .val (.int p4), .val (.long q5), .second, .val (.int kp), .val (.int (((p4.toUInt32 >>> ((1 : Int32) &&& 31).toUInt32).toInt32) &&& (3 : Int32))), .val (.int (p1 &&& (2147483647 : Int32))), .val (.int (p2 &&& (2147483647 : Int32))), .val (.int (p3 &&& (2147483647 : Int32))), .unset, .unset, .unset, .unset, .unset, .unset, .unset, .unset]) rfl k) ?_
  suffices J49 : ∀ (hA : Int32), Go p e below s (Q0 Z p1 p2 p3 p4 q5 h0 n0) room_1.cells room_1.slots (s₁.setTop (mkF m 49 #[.val (.int p1), .val (.int p2), .val (.int p3), .val (.int p4), .val (.long q5), .second, .val (.int kp), .val (.int (((p4.toUInt32 >>> ((1 : Int32) &&& 31).toUInt32).toInt32) &&& (3 : Int32))), .val (.int (p1 &&& (2147483647 : Int32))), .val (.int (p2 &&& (2147483647 : Int32))), .val (.int (p3 &&& (2147483647 : Int32))), .unset, .unset, .unset, .unset, .unset, .unset, .unset, .unset] [(.int hA)])) by
    refine Go.via (S' := s₁.setTop (mkF m 40 #[.val (.int p1), .val (.int p2), .val (.int p3), .val (.int p4), .val (.long q5), .second, .val (.int kp), .val (.int (((p4.toUInt32 >>> ((1 : Int32) &&& 31).toUInt32).toInt32) &&& (3 : Int32))), .val (.int (p1 &&& (2147483647 : Int32))), .val (.int (p2 &&& (2147483647 : Int32))), .val (.int (p3 &&& (2147483647 : Int32))), .unset, .unset, .unset, .unset, .unset, .unset, .unset, .unset] [(.int (((p4.toUInt32 >>> ((1 : Int32) &&& 31).toUInt32).toInt32) &&& (3 : Int32)))])) (fun _ k => XS.iload X0.here hx rfl (hb hby at_38) rfl k) ?_
    refine Go.via (S' := s₁.setTop (mkF m 41 #[.val (.int p1), .val (.int p2), .val (.int p3), .val (.int p4), .val (.long q5), .second, .val (.int kp), .val (.int (((p4.toUInt32 >>> ((1 : Int32) &&& 31).toUInt32).toInt32) &&& (3 : Int32))), .val (.int (p1 &&& (2147483647 : Int32))), .val (.int (p2 &&& (2147483647 : Int32))), .val (.int (p3 &&& (2147483647 : Int32))), .unset, .unset, .unset, .unset, .unset, .unset, .unset, .unset] [(.int (1 : Int32)), (.int (((p4.toUInt32 >>> ((1 : Int32) &&& 31).toUInt32).toInt32) &&& (3 : Int32)))])) (fun _ k => XS.iconst X0.here hx rfl (hb hby at_40) k) ?_
    rcases Decidable.em ((((p4.toUInt32 >>> ((1 : Int32) &&& 31).toUInt32).toInt32) &&& (3 : Int32)) < (1 : Int32)) with hc41 | hc41
    · refine Go.via (S' := s₁.setTop (mkF m 48 #[.val (.int p1), .val (.int p2), .val (.int p3), .val (.int p4), .val (.long q5), .second, .val (.int kp), .val (.int (((p4.toUInt32 >>> ((1 : Int32) &&& 31).toUInt32).toInt32) &&& (3 : Int32))), .val (.int (p1 &&& (2147483647 : Int32))), .val (.int (p2 &&& (2147483647 : Int32))), .val (.int (p3 &&& (2147483647 : Int32))), .unset, .unset, .unset, .unset, .unset, .unset, .unset, .unset] [])) (fun _ k => XS.icmpYes X0.here hx rfl (pc0 := 41) (pc' := 48) rfl (hb hby at_41) rfl (tlt hc41).1 (by decide) (by decide) k) ?_
      refine Go.via (S' := s₁.setTop (mkF m 49 #[.val (.int p1), .val (.int p2), .val (.int p3), .val (.int p4), .val (.long q5), .second, .val (.int kp), .val (.int (((p4.toUInt32 >>> ((1 : Int32) &&& 31).toUInt32).toInt32) &&& (3 : Int32))), .val (.int (p1 &&& (2147483647 : Int32))), .val (.int (p2 &&& (2147483647 : Int32))), .val (.int (p3 &&& (2147483647 : Int32))), .unset, .unset, .unset, .unset, .unset, .unset, .unset, .unset] [(.int (0 : Int32))])) (fun _ k => XS.iconst X0.here hx rfl (hb hby at_48) k) ?_
      exact J49 _
    · refine Go.via (S' := s₁.setTop (mkF m 44 #[.val (.int p1), .val (.int p2), .val (.int p3), .val (.int p4), .val (.long q5), .second, .val (.int kp), .val (.int (((p4.toUInt32 >>> ((1 : Int32) &&& 31).toUInt32).toInt32) &&& (3 : Int32))), .val (.int (p1 &&& (2147483647 : Int32))), .val (.int (p2 &&& (2147483647 : Int32))), .val (.int (p3 &&& (2147483647 : Int32))), .unset, .unset, .unset, .unset, .unset, .unset, .unset, .unset] [])) (fun _ k => XS.icmpNo X0.here hx rfl (hb hby at_41) rfl (flt hc41).1 k) ?_
      refine Go.via (S' := s₁.setTop (mkF m 45 #[.val (.int p1), .val (.int p2), .val (.int p3), .val (.int p4), .val (.long q5), .second, .val (.int kp), .val (.int (((p4.toUInt32 >>> ((1 : Int32) &&& 31).toUInt32).toInt32) &&& (3 : Int32))), .val (.int (p1 &&& (2147483647 : Int32))), .val (.int (p2 &&& (2147483647 : Int32))), .val (.int (p3 &&& (2147483647 : Int32))), .unset, .unset, .unset, .unset, .unset, .unset, .unset, .unset] [(.int (1 : Int32))])) (fun _ k => XS.iconst X0.here hx rfl (hb hby at_44) k) ?_
      refine Go.via (S' := s₁.setTop (mkF m 49 #[.val (.int p1), .val (.int p2), .val (.int p3), .val (.int p4), .val (.long q5), .second, .val (.int kp), .val (.int (((p4.toUInt32 >>> ((1 : Int32) &&& 31).toUInt32).toInt32) &&& (3 : Int32))), .val (.int (p1 &&& (2147483647 : Int32))), .val (.int (p2 &&& (2147483647 : Int32))), .val (.int (p3 &&& (2147483647 : Int32))), .unset, .unset, .unset, .unset, .unset, .unset, .unset, .unset] [(.int (1 : Int32))])) (fun _ k => XS.goto X0.here hx rfl (pc0 := 45) (pc' := 49) rfl (hb hby at_45) (by decide) (by decide) k) ?_
      exact J49 _
  intro hA
  refine Go.via (S' := s₁.setTop (mkF m 51 #[.val (.int p1), .val (.int p2), .val (.int p3), .val (.int p4), .val (.long q5), .second, .val (.int kp), .val (.int (((p4.toUInt32 >>> ((1 : Int32) &&& 31).toUInt32).toInt32) &&& (3 : Int32))), .val (.int (p1 &&& (2147483647 : Int32))), .val (.int (p2 &&& (2147483647 : Int32))), .val (.int (p3 &&& (2147483647 : Int32))), .val (.int hA), .unset, .unset, .unset, .unset, .unset, .unset, .unset] [])) (fun _ k => XS.istore X0.here hx rfl (hb hby at_49) rfl (l' := #[.val (.int p1), .val (.int p2), .val (.int p3), .val (.int p4), .val (.long q5), .second, .val (.int kp), .val (.int (((p4.toUInt32 >>> ((1 : Int32) &&& 31).toUInt32).toInt32) &&& (3 : Int32))), .val (.int (p1 &&& (2147483647 : Int32))), .val (.int (p2 &&& (2147483647 : Int32))), .val (.int (p3 &&& (2147483647 : Int32))), .val (.int hA), .unset, .unset, .unset, .unset, .unset, .unset, .unset]) rfl k) ?_
  suffices J69 : ∀ (hB : Int32), Go p e below s (Q0 Z p1 p2 p3 p4 q5 h0 n0) room_1.cells room_1.slots (s₁.setTop (mkF m 69 #[.val (.int p1), .val (.int p2), .val (.int p3), .val (.int p4), .val (.long q5), .second, .val (.int kp), .val (.int (((p4.toUInt32 >>> ((1 : Int32) &&& 31).toUInt32).toInt32) &&& (3 : Int32))), .val (.int (p1 &&& (2147483647 : Int32))), .val (.int (p2 &&& (2147483647 : Int32))), .val (.int (p3 &&& (2147483647 : Int32))), .val (.int hA), .unset, .unset, .unset, .unset, .unset, .unset, .unset] [(.int hB)])) by
    refine Go.via (S' := s₁.setTop (mkF m 53 #[.val (.int p1), .val (.int p2), .val (.int p3), .val (.int p4), .val (.long q5), .second, .val (.int kp), .val (.int (((p4.toUInt32 >>> ((1 : Int32) &&& 31).toUInt32).toInt32) &&& (3 : Int32))), .val (.int (p1 &&& (2147483647 : Int32))), .val (.int (p2 &&& (2147483647 : Int32))), .val (.int (p3 &&& (2147483647 : Int32))), .val (.int hA), .unset, .unset, .unset, .unset, .unset, .unset, .unset] [(.int (((p4.toUInt32 >>> ((1 : Int32) &&& 31).toUInt32).toInt32) &&& (3 : Int32)))])) (fun _ k => XS.iload X0.here hx rfl (hb hby at_51) rfl k) ?_
    refine Go.via (S' := s₁.setTop (mkF m 54 #[.val (.int p1), .val (.int p2), .val (.int p3), .val (.int p4), .val (.long q5), .second, .val (.int kp), .val (.int (((p4.toUInt32 >>> ((1 : Int32) &&& 31).toUInt32).toInt32) &&& (3 : Int32))), .val (.int (p1 &&& (2147483647 : Int32))), .val (.int (p2 &&& (2147483647 : Int32))), .val (.int (p3 &&& (2147483647 : Int32))), .val (.int hA), .unset, .unset, .unset, .unset, .unset, .unset, .unset] [(.int (2 : Int32)), (.int (((p4.toUInt32 >>> ((1 : Int32) &&& 31).toUInt32).toInt32) &&& (3 : Int32)))])) (fun _ k => XS.iconst X0.here hx rfl (hb hby at_53) k) ?_
    rcases Decidable.em ((((p4.toUInt32 >>> ((1 : Int32) &&& 31).toUInt32).toInt32) &&& (3 : Int32)) < (2 : Int32)) with hc54 | hc54
    · refine Go.via (S' := s₁.setTop (mkF m 68 #[.val (.int p1), .val (.int p2), .val (.int p3), .val (.int p4), .val (.long q5), .second, .val (.int kp), .val (.int (((p4.toUInt32 >>> ((1 : Int32) &&& 31).toUInt32).toInt32) &&& (3 : Int32))), .val (.int (p1 &&& (2147483647 : Int32))), .val (.int (p2 &&& (2147483647 : Int32))), .val (.int (p3 &&& (2147483647 : Int32))), .val (.int hA), .unset, .unset, .unset, .unset, .unset, .unset, .unset] [])) (fun _ k => XS.icmpYes X0.here hx rfl (pc0 := 54) (pc' := 68) rfl (hb hby at_54) rfl (tlt hc54).1 (by decide) (by decide) k) ?_
      refine Go.via (S' := s₁.setTop (mkF m 69 #[.val (.int p1), .val (.int p2), .val (.int p3), .val (.int p4), .val (.long q5), .second, .val (.int kp), .val (.int (((p4.toUInt32 >>> ((1 : Int32) &&& 31).toUInt32).toInt32) &&& (3 : Int32))), .val (.int (p1 &&& (2147483647 : Int32))), .val (.int (p2 &&& (2147483647 : Int32))), .val (.int (p3 &&& (2147483647 : Int32))), .val (.int hA), .unset, .unset, .unset, .unset, .unset, .unset, .unset] [(.int (0 : Int32))])) (fun _ k => XS.iconst X0.here hx rfl (hb hby at_68) k) ?_
      exact J69 _
    · refine Go.via (S' := s₁.setTop (mkF m 57 #[.val (.int p1), .val (.int p2), .val (.int p3), .val (.int p4), .val (.long q5), .second, .val (.int kp), .val (.int (((p4.toUInt32 >>> ((1 : Int32) &&& 31).toUInt32).toInt32) &&& (3 : Int32))), .val (.int (p1 &&& (2147483647 : Int32))), .val (.int (p2 &&& (2147483647 : Int32))), .val (.int (p3 &&& (2147483647 : Int32))), .val (.int hA), .unset, .unset, .unset, .unset, .unset, .unset, .unset] [])) (fun _ k => XS.icmpNo X0.here hx rfl (hb hby at_54) rfl (flt hc54).1 k) ?_
      refine Go.via (S' := s₁.setTop (mkF m 59 #[.val (.int p1), .val (.int p2), .val (.int p3), .val (.int p4), .val (.long q5), .second, .val (.int kp), .val (.int (((p4.toUInt32 >>> ((1 : Int32) &&& 31).toUInt32).toInt32) &&& (3 : Int32))), .val (.int (p1 &&& (2147483647 : Int32))), .val (.int (p2 &&& (2147483647 : Int32))), .val (.int (p3 &&& (2147483647 : Int32))), .val (.int hA), .unset, .unset, .unset, .unset, .unset, .unset, .unset] [(.int (p2 &&& (2147483647 : Int32)))])) (fun _ k => XS.iload X0.here hx rfl (hb hby at_57) rfl k) ?_
      refine Go.via (S' := s₁.setTop (mkF m 61 #[.val (.int p1), .val (.int p2), .val (.int p3), .val (.int p4), .val (.long q5), .second, .val (.int kp), .val (.int (((p4.toUInt32 >>> ((1 : Int32) &&& 31).toUInt32).toInt32) &&& (3 : Int32))), .val (.int (p1 &&& (2147483647 : Int32))), .val (.int (p2 &&& (2147483647 : Int32))), .val (.int (p3 &&& (2147483647 : Int32))), .val (.int hA), .unset, .unset, .unset, .unset, .unset, .unset, .unset] [(.int (p1 &&& (2147483647 : Int32))), (.int (p2 &&& (2147483647 : Int32)))])) (fun _ k => XS.iload X0.here hx rfl (hb hby at_59) rfl k) ?_
      rcases Decidable.em ((p2 &&& (2147483647 : Int32)) = (p1 &&& (2147483647 : Int32))) with hc61 | hc61
      · refine Go.via (S' := s₁.setTop (mkF m 68 #[.val (.int p1), .val (.int p2), .val (.int p3), .val (.int p4), .val (.long q5), .second, .val (.int kp), .val (.int (((p4.toUInt32 >>> ((1 : Int32) &&& 31).toUInt32).toInt32) &&& (3 : Int32))), .val (.int (p1 &&& (2147483647 : Int32))), .val (.int (p2 &&& (2147483647 : Int32))), .val (.int (p3 &&& (2147483647 : Int32))), .val (.int hA), .unset, .unset, .unset, .unset, .unset, .unset, .unset] [])) (fun _ k => XS.icmpYes X0.here hx rfl (pc0 := 61) (pc' := 68) rfl (hb hby at_61) rfl (teq hc61).1 (by decide) (by decide) k) ?_
        refine Go.via (S' := s₁.setTop (mkF m 69 #[.val (.int p1), .val (.int p2), .val (.int p3), .val (.int p4), .val (.long q5), .second, .val (.int kp), .val (.int (((p4.toUInt32 >>> ((1 : Int32) &&& 31).toUInt32).toInt32) &&& (3 : Int32))), .val (.int (p1 &&& (2147483647 : Int32))), .val (.int (p2 &&& (2147483647 : Int32))), .val (.int (p3 &&& (2147483647 : Int32))), .val (.int hA), .unset, .unset, .unset, .unset, .unset, .unset, .unset] [(.int (0 : Int32))])) (fun _ k => XS.iconst X0.here hx rfl (hb hby at_68) k) ?_
        exact J69 _
      · refine Go.via (S' := s₁.setTop (mkF m 64 #[.val (.int p1), .val (.int p2), .val (.int p3), .val (.int p4), .val (.long q5), .second, .val (.int kp), .val (.int (((p4.toUInt32 >>> ((1 : Int32) &&& 31).toUInt32).toInt32) &&& (3 : Int32))), .val (.int (p1 &&& (2147483647 : Int32))), .val (.int (p2 &&& (2147483647 : Int32))), .val (.int (p3 &&& (2147483647 : Int32))), .val (.int hA), .unset, .unset, .unset, .unset, .unset, .unset, .unset] [])) (fun _ k => XS.icmpNo X0.here hx rfl (hb hby at_61) rfl (feq hc61).1 k) ?_
        refine Go.via (S' := s₁.setTop (mkF m 65 #[.val (.int p1), .val (.int p2), .val (.int p3), .val (.int p4), .val (.long q5), .second, .val (.int kp), .val (.int (((p4.toUInt32 >>> ((1 : Int32) &&& 31).toUInt32).toInt32) &&& (3 : Int32))), .val (.int (p1 &&& (2147483647 : Int32))), .val (.int (p2 &&& (2147483647 : Int32))), .val (.int (p3 &&& (2147483647 : Int32))), .val (.int hA), .unset, .unset, .unset, .unset, .unset, .unset, .unset] [(.int (1 : Int32))])) (fun _ k => XS.iconst X0.here hx rfl (hb hby at_64) k) ?_
        refine Go.via (S' := s₁.setTop (mkF m 69 #[.val (.int p1), .val (.int p2), .val (.int p3), .val (.int p4), .val (.long q5), .second, .val (.int kp), .val (.int (((p4.toUInt32 >>> ((1 : Int32) &&& 31).toUInt32).toInt32) &&& (3 : Int32))), .val (.int (p1 &&& (2147483647 : Int32))), .val (.int (p2 &&& (2147483647 : Int32))), .val (.int (p3 &&& (2147483647 : Int32))), .val (.int hA), .unset, .unset, .unset, .unset, .unset, .unset, .unset] [(.int (1 : Int32))])) (fun _ k => XS.goto X0.here hx rfl (pc0 := 65) (pc' := 69) rfl (hb hby at_65) (by decide) (by decide) k) ?_
        exact J69 _
  intro hB
  refine Go.via (S' := s₁.setTop (mkF m 71 #[.val (.int p1), .val (.int p2), .val (.int p3), .val (.int p4), .val (.long q5), .second, .val (.int kp), .val (.int (((p4.toUInt32 >>> ((1 : Int32) &&& 31).toUInt32).toInt32) &&& (3 : Int32))), .val (.int (p1 &&& (2147483647 : Int32))), .val (.int (p2 &&& (2147483647 : Int32))), .val (.int (p3 &&& (2147483647 : Int32))), .val (.int hA), .val (.int hB), .unset, .unset, .unset, .unset, .unset, .unset] [])) (fun _ k => XS.istore X0.here hx rfl (hb hby at_69) rfl (l' := #[.val (.int p1), .val (.int p2), .val (.int p3), .val (.int p4), .val (.long q5), .second, .val (.int kp), .val (.int (((p4.toUInt32 >>> ((1 : Int32) &&& 31).toUInt32).toInt32) &&& (3 : Int32))), .val (.int (p1 &&& (2147483647 : Int32))), .val (.int (p2 &&& (2147483647 : Int32))), .val (.int (p3 &&& (2147483647 : Int32))), .val (.int hA), .val (.int hB), .unset, .unset, .unset, .unset, .unset, .unset]) rfl k) ?_
  suffices J96 : ∀ (hC : Int32), Go p e below s (Q0 Z p1 p2 p3 p4 q5 h0 n0) room_1.cells room_1.slots (s₁.setTop (mkF m 96 #[.val (.int p1), .val (.int p2), .val (.int p3), .val (.int p4), .val (.long q5), .second, .val (.int kp), .val (.int (((p4.toUInt32 >>> ((1 : Int32) &&& 31).toUInt32).toInt32) &&& (3 : Int32))), .val (.int (p1 &&& (2147483647 : Int32))), .val (.int (p2 &&& (2147483647 : Int32))), .val (.int (p3 &&& (2147483647 : Int32))), .val (.int hA), .val (.int hB), .unset, .unset, .unset, .unset, .unset, .unset] [(.int hC)])) by
    refine Go.via (S' := s₁.setTop (mkF m 73 #[.val (.int p1), .val (.int p2), .val (.int p3), .val (.int p4), .val (.long q5), .second, .val (.int kp), .val (.int (((p4.toUInt32 >>> ((1 : Int32) &&& 31).toUInt32).toInt32) &&& (3 : Int32))), .val (.int (p1 &&& (2147483647 : Int32))), .val (.int (p2 &&& (2147483647 : Int32))), .val (.int (p3 &&& (2147483647 : Int32))), .val (.int hA), .val (.int hB), .unset, .unset, .unset, .unset, .unset, .unset] [(.int (((p4.toUInt32 >>> ((1 : Int32) &&& 31).toUInt32).toInt32) &&& (3 : Int32)))])) (fun _ k => XS.iload X0.here hx rfl (hb hby at_71) rfl k) ?_
    refine Go.via (S' := s₁.setTop (mkF m 74 #[.val (.int p1), .val (.int p2), .val (.int p3), .val (.int p4), .val (.long q5), .second, .val (.int kp), .val (.int (((p4.toUInt32 >>> ((1 : Int32) &&& 31).toUInt32).toInt32) &&& (3 : Int32))), .val (.int (p1 &&& (2147483647 : Int32))), .val (.int (p2 &&& (2147483647 : Int32))), .val (.int (p3 &&& (2147483647 : Int32))), .val (.int hA), .val (.int hB), .unset, .unset, .unset, .unset, .unset, .unset] [(.int (3 : Int32)), (.int (((p4.toUInt32 >>> ((1 : Int32) &&& 31).toUInt32).toInt32) &&& (3 : Int32)))])) (fun _ k => XS.iconst X0.here hx rfl (hb hby at_73) k) ?_
    rcases Decidable.em ((((p4.toUInt32 >>> ((1 : Int32) &&& 31).toUInt32).toInt32) &&& (3 : Int32)) < (3 : Int32)) with hc74 | hc74
    · refine Go.via (S' := s₁.setTop (mkF m 95 #[.val (.int p1), .val (.int p2), .val (.int p3), .val (.int p4), .val (.long q5), .second, .val (.int kp), .val (.int (((p4.toUInt32 >>> ((1 : Int32) &&& 31).toUInt32).toInt32) &&& (3 : Int32))), .val (.int (p1 &&& (2147483647 : Int32))), .val (.int (p2 &&& (2147483647 : Int32))), .val (.int (p3 &&& (2147483647 : Int32))), .val (.int hA), .val (.int hB), .unset, .unset, .unset, .unset, .unset, .unset] [])) (fun _ k => XS.icmpYes X0.here hx rfl (pc0 := 74) (pc' := 95) rfl (hb hby at_74) rfl (tlt hc74).1 (by decide) (by decide) k) ?_
      refine Go.via (S' := s₁.setTop (mkF m 96 #[.val (.int p1), .val (.int p2), .val (.int p3), .val (.int p4), .val (.long q5), .second, .val (.int kp), .val (.int (((p4.toUInt32 >>> ((1 : Int32) &&& 31).toUInt32).toInt32) &&& (3 : Int32))), .val (.int (p1 &&& (2147483647 : Int32))), .val (.int (p2 &&& (2147483647 : Int32))), .val (.int (p3 &&& (2147483647 : Int32))), .val (.int hA), .val (.int hB), .unset, .unset, .unset, .unset, .unset, .unset] [(.int (0 : Int32))])) (fun _ k => XS.iconst X0.here hx rfl (hb hby at_95) k) ?_
      exact J96 _
    · refine Go.via (S' := s₁.setTop (mkF m 77 #[.val (.int p1), .val (.int p2), .val (.int p3), .val (.int p4), .val (.long q5), .second, .val (.int kp), .val (.int (((p4.toUInt32 >>> ((1 : Int32) &&& 31).toUInt32).toInt32) &&& (3 : Int32))), .val (.int (p1 &&& (2147483647 : Int32))), .val (.int (p2 &&& (2147483647 : Int32))), .val (.int (p3 &&& (2147483647 : Int32))), .val (.int hA), .val (.int hB), .unset, .unset, .unset, .unset, .unset, .unset] [])) (fun _ k => XS.icmpNo X0.here hx rfl (hb hby at_74) rfl (flt hc74).1 k) ?_
      refine Go.via (S' := s₁.setTop (mkF m 79 #[.val (.int p1), .val (.int p2), .val (.int p3), .val (.int p4), .val (.long q5), .second, .val (.int kp), .val (.int (((p4.toUInt32 >>> ((1 : Int32) &&& 31).toUInt32).toInt32) &&& (3 : Int32))), .val (.int (p1 &&& (2147483647 : Int32))), .val (.int (p2 &&& (2147483647 : Int32))), .val (.int (p3 &&& (2147483647 : Int32))), .val (.int hA), .val (.int hB), .unset, .unset, .unset, .unset, .unset, .unset] [(.int (p3 &&& (2147483647 : Int32)))])) (fun _ k => XS.iload X0.here hx rfl (hb hby at_77) rfl k) ?_
      refine Go.via (S' := s₁.setTop (mkF m 81 #[.val (.int p1), .val (.int p2), .val (.int p3), .val (.int p4), .val (.long q5), .second, .val (.int kp), .val (.int (((p4.toUInt32 >>> ((1 : Int32) &&& 31).toUInt32).toInt32) &&& (3 : Int32))), .val (.int (p1 &&& (2147483647 : Int32))), .val (.int (p2 &&& (2147483647 : Int32))), .val (.int (p3 &&& (2147483647 : Int32))), .val (.int hA), .val (.int hB), .unset, .unset, .unset, .unset, .unset, .unset] [(.int (p1 &&& (2147483647 : Int32))), (.int (p3 &&& (2147483647 : Int32)))])) (fun _ k => XS.iload X0.here hx rfl (hb hby at_79) rfl k) ?_
      rcases Decidable.em ((p3 &&& (2147483647 : Int32)) = (p1 &&& (2147483647 : Int32))) with hc81 | hc81
      · refine Go.via (S' := s₁.setTop (mkF m 95 #[.val (.int p1), .val (.int p2), .val (.int p3), .val (.int p4), .val (.long q5), .second, .val (.int kp), .val (.int (((p4.toUInt32 >>> ((1 : Int32) &&& 31).toUInt32).toInt32) &&& (3 : Int32))), .val (.int (p1 &&& (2147483647 : Int32))), .val (.int (p2 &&& (2147483647 : Int32))), .val (.int (p3 &&& (2147483647 : Int32))), .val (.int hA), .val (.int hB), .unset, .unset, .unset, .unset, .unset, .unset] [])) (fun _ k => XS.icmpYes X0.here hx rfl (pc0 := 81) (pc' := 95) rfl (hb hby at_81) rfl (teq hc81).1 (by decide) (by decide) k) ?_
        refine Go.via (S' := s₁.setTop (mkF m 96 #[.val (.int p1), .val (.int p2), .val (.int p3), .val (.int p4), .val (.long q5), .second, .val (.int kp), .val (.int (((p4.toUInt32 >>> ((1 : Int32) &&& 31).toUInt32).toInt32) &&& (3 : Int32))), .val (.int (p1 &&& (2147483647 : Int32))), .val (.int (p2 &&& (2147483647 : Int32))), .val (.int (p3 &&& (2147483647 : Int32))), .val (.int hA), .val (.int hB), .unset, .unset, .unset, .unset, .unset, .unset] [(.int (0 : Int32))])) (fun _ k => XS.iconst X0.here hx rfl (hb hby at_95) k) ?_
        exact J96 _
      · refine Go.via (S' := s₁.setTop (mkF m 84 #[.val (.int p1), .val (.int p2), .val (.int p3), .val (.int p4), .val (.long q5), .second, .val (.int kp), .val (.int (((p4.toUInt32 >>> ((1 : Int32) &&& 31).toUInt32).toInt32) &&& (3 : Int32))), .val (.int (p1 &&& (2147483647 : Int32))), .val (.int (p2 &&& (2147483647 : Int32))), .val (.int (p3 &&& (2147483647 : Int32))), .val (.int hA), .val (.int hB), .unset, .unset, .unset, .unset, .unset, .unset] [])) (fun _ k => XS.icmpNo X0.here hx rfl (hb hby at_81) rfl (feq hc81).1 k) ?_
        refine Go.via (S' := s₁.setTop (mkF m 86 #[.val (.int p1), .val (.int p2), .val (.int p3), .val (.int p4), .val (.long q5), .second, .val (.int kp), .val (.int (((p4.toUInt32 >>> ((1 : Int32) &&& 31).toUInt32).toInt32) &&& (3 : Int32))), .val (.int (p1 &&& (2147483647 : Int32))), .val (.int (p2 &&& (2147483647 : Int32))), .val (.int (p3 &&& (2147483647 : Int32))), .val (.int hA), .val (.int hB), .unset, .unset, .unset, .unset, .unset, .unset] [(.int (p3 &&& (2147483647 : Int32)))])) (fun _ k => XS.iload X0.here hx rfl (hb hby at_84) rfl k) ?_
        refine Go.via (S' := s₁.setTop (mkF m 88 #[.val (.int p1), .val (.int p2), .val (.int p3), .val (.int p4), .val (.long q5), .second, .val (.int kp), .val (.int (((p4.toUInt32 >>> ((1 : Int32) &&& 31).toUInt32).toInt32) &&& (3 : Int32))), .val (.int (p1 &&& (2147483647 : Int32))), .val (.int (p2 &&& (2147483647 : Int32))), .val (.int (p3 &&& (2147483647 : Int32))), .val (.int hA), .val (.int hB), .unset, .unset, .unset, .unset, .unset, .unset] [(.int (p2 &&& (2147483647 : Int32))), (.int (p3 &&& (2147483647 : Int32)))])) (fun _ k => XS.iload X0.here hx rfl (hb hby at_86) rfl k) ?_
        rcases Decidable.em ((p3 &&& (2147483647 : Int32)) = (p2 &&& (2147483647 : Int32))) with hc88 | hc88
        · refine Go.via (S' := s₁.setTop (mkF m 95 #[.val (.int p1), .val (.int p2), .val (.int p3), .val (.int p4), .val (.long q5), .second, .val (.int kp), .val (.int (((p4.toUInt32 >>> ((1 : Int32) &&& 31).toUInt32).toInt32) &&& (3 : Int32))), .val (.int (p1 &&& (2147483647 : Int32))), .val (.int (p2 &&& (2147483647 : Int32))), .val (.int (p3 &&& (2147483647 : Int32))), .val (.int hA), .val (.int hB), .unset, .unset, .unset, .unset, .unset, .unset] [])) (fun _ k => XS.icmpYes X0.here hx rfl (pc0 := 88) (pc' := 95) rfl (hb hby at_88) rfl (teq hc88).1 (by decide) (by decide) k) ?_
          refine Go.via (S' := s₁.setTop (mkF m 96 #[.val (.int p1), .val (.int p2), .val (.int p3), .val (.int p4), .val (.long q5), .second, .val (.int kp), .val (.int (((p4.toUInt32 >>> ((1 : Int32) &&& 31).toUInt32).toInt32) &&& (3 : Int32))), .val (.int (p1 &&& (2147483647 : Int32))), .val (.int (p2 &&& (2147483647 : Int32))), .val (.int (p3 &&& (2147483647 : Int32))), .val (.int hA), .val (.int hB), .unset, .unset, .unset, .unset, .unset, .unset] [(.int (0 : Int32))])) (fun _ k => XS.iconst X0.here hx rfl (hb hby at_95) k) ?_
          exact J96 _
        · refine Go.via (S' := s₁.setTop (mkF m 91 #[.val (.int p1), .val (.int p2), .val (.int p3), .val (.int p4), .val (.long q5), .second, .val (.int kp), .val (.int (((p4.toUInt32 >>> ((1 : Int32) &&& 31).toUInt32).toInt32) &&& (3 : Int32))), .val (.int (p1 &&& (2147483647 : Int32))), .val (.int (p2 &&& (2147483647 : Int32))), .val (.int (p3 &&& (2147483647 : Int32))), .val (.int hA), .val (.int hB), .unset, .unset, .unset, .unset, .unset, .unset] [])) (fun _ k => XS.icmpNo X0.here hx rfl (hb hby at_88) rfl (feq hc88).1 k) ?_
          refine Go.via (S' := s₁.setTop (mkF m 92 #[.val (.int p1), .val (.int p2), .val (.int p3), .val (.int p4), .val (.long q5), .second, .val (.int kp), .val (.int (((p4.toUInt32 >>> ((1 : Int32) &&& 31).toUInt32).toInt32) &&& (3 : Int32))), .val (.int (p1 &&& (2147483647 : Int32))), .val (.int (p2 &&& (2147483647 : Int32))), .val (.int (p3 &&& (2147483647 : Int32))), .val (.int hA), .val (.int hB), .unset, .unset, .unset, .unset, .unset, .unset] [(.int (1 : Int32))])) (fun _ k => XS.iconst X0.here hx rfl (hb hby at_91) k) ?_
          refine Go.via (S' := s₁.setTop (mkF m 96 #[.val (.int p1), .val (.int p2), .val (.int p3), .val (.int p4), .val (.long q5), .second, .val (.int kp), .val (.int (((p4.toUInt32 >>> ((1 : Int32) &&& 31).toUInt32).toInt32) &&& (3 : Int32))), .val (.int (p1 &&& (2147483647 : Int32))), .val (.int (p2 &&& (2147483647 : Int32))), .val (.int (p3 &&& (2147483647 : Int32))), .val (.int hA), .val (.int hB), .unset, .unset, .unset, .unset, .unset, .unset] [(.int (1 : Int32))])) (fun _ k => XS.goto X0.here hx rfl (pc0 := 92) (pc' := 96) rfl (hb hby at_92) (by decide) (by decide) k) ?_
          exact J96 _
  intro hC
  refine Go.via (S' := s₁.setTop (mkF m 98 #[.val (.int p1), .val (.int p2), .val (.int p3), .val (.int p4), .val (.long q5), .second, .val (.int kp), .val (.int (((p4.toUInt32 >>> ((1 : Int32) &&& 31).toUInt32).toInt32) &&& (3 : Int32))), .val (.int (p1 &&& (2147483647 : Int32))), .val (.int (p2 &&& (2147483647 : Int32))), .val (.int (p3 &&& (2147483647 : Int32))), .val (.int hA), .val (.int hB), .val (.int hC), .unset, .unset, .unset, .unset, .unset] [])) (fun _ k => XS.istore X0.here hx rfl (hb hby at_96) rfl (l' := #[.val (.int p1), .val (.int p2), .val (.int p3), .val (.int p4), .val (.long q5), .second, .val (.int kp), .val (.int (((p4.toUInt32 >>> ((1 : Int32) &&& 31).toUInt32).toInt32) &&& (3 : Int32))), .val (.int (p1 &&& (2147483647 : Int32))), .val (.int (p2 &&& (2147483647 : Int32))), .val (.int (p3 &&& (2147483647 : Int32))), .val (.int hA), .val (.int hB), .val (.int hC), .unset, .unset, .unset, .unset, .unset]) rfl k) ?_
  obtain ⟨T1, h1, X1, e1, E1, A1, D1, -, st1⟩ := newO X0 hx hZ hown (hw _ (List.mem_of_getElem? (i := 1) rfl)) (hw _ (List.mem_of_getElem? (i := 2) rfl)) (hw _ (List.mem_of_getElem? (i := 3) rfl)) e0 (g := (mkF m 98 #[.val (.int p1), .val (.int p2), .val (.int p3), .val (.int p4), .val (.long q5), .second, .val (.int kp), .val (.int (((p4.toUInt32 >>> ((1 : Int32) &&& 31).toUInt32).toInt32) &&& (3 : Int32))), .val (.int (p1 &&& (2147483647 : Int32))), .val (.int (p2 &&& (2147483647 : Int32))), .val (.int (p3 &&& (2147483647 : Int32))), .val (.int hA), .val (.int hB), .val (.int hC), .unset, .unset, .unset, .unset, .unset] [])) rfl (hb hby at_98) (by decide) (by decide)
  obtain ⟨b1, g1⟩ : ∃ z, z = h0.size := ⟨_, rfl⟩
  rw [← g1] at A1 D1 st1
  have g2 : n0 ≤ b1 := Nat.le_trans Z0 (Nat.le_of_eq g1.symm)
  have z3 := Nat.le_trans Z0 E1.1
  have F4 : Fld Z h1 b1 "com/example/tidematch/tidematch/greedy/VertexTable" "mSlots" "[I" .null := D1 (Or.inl (hw _ (List.mem_of_getElem? (i := 19) rfl))) (ty := (.array .int)) (by decide)
  have F5 : Fld Z h1 b1 "com/example/tidematch/tidematch/greedy/VertexTable" "mValues" "[I" .null := D1 (Or.inl (hw _ (List.mem_of_getElem? (i := 21) rfl))) (ty := (.array .int)) (by decide)
  have F6 : Fld Z h1 b1 "com/example/tidematch/tidematch/greedy/VertexTable" "mSize" "I" (.int (0 : Int32)) := D1 (Or.inl (hw _ (List.mem_of_getElem? (i := 43) rfl))) (ty := .int) (by decide)
  refine Go.via (S' := T1.setTop (mkF m 101 #[.val (.int p1), .val (.int p2), .val (.int p3), .val (.int p4), .val (.long q5), .second, .val (.int kp), .val (.int (((p4.toUInt32 >>> ((1 : Int32) &&& 31).toUInt32).toInt32) &&& (3 : Int32))), .val (.int (p1 &&& (2147483647 : Int32))), .val (.int (p2 &&& (2147483647 : Int32))), .val (.int (p3 &&& (2147483647 : Int32))), .val (.int hA), .val (.int hB), .val (.int hC), .unset, .unset, .unset, .unset, .unset] [(.ref b1)])) (fun _ k => st1 _ k) ?_
  refine Go.via (S' := T1.setTop (mkF m 102 #[.val (.int p1), .val (.int p2), .val (.int p3), .val (.int p4), .val (.long q5), .second, .val (.int kp), .val (.int (((p4.toUInt32 >>> ((1 : Int32) &&& 31).toUInt32).toInt32) &&& (3 : Int32))), .val (.int (p1 &&& (2147483647 : Int32))), .val (.int (p2 &&& (2147483647 : Int32))), .val (.int (p3 &&& (2147483647 : Int32))), .val (.int hA), .val (.int hB), .val (.int hC), .unset, .unset, .unset, .unset, .unset] [(.ref b1), (.ref b1)])) (fun _ k => XS.dup X1.here hx rfl (hb hby at_101) rfl rfl k) ?_
  refine Go.via (S' := T1.setTop (mkF m 104 #[.val (.int p1), .val (.int p2), .val (.int p3), .val (.int p4), .val (.long q5), .second, .val (.int kp), .val (.int (((p4.toUInt32 >>> ((1 : Int32) &&& 31).toUInt32).toInt32) &&& (3 : Int32))), .val (.int (p1 &&& (2147483647 : Int32))), .val (.int (p2 &&& (2147483647 : Int32))), .val (.int (p3 &&& (2147483647 : Int32))), .val (.int hA), .val (.int hB), .val (.int hC), .unset, .unset, .unset, .unset, .unset] [(.int kp), (.ref b1), (.ref b1)])) (fun _ k => XS.iload X1.here hx rfl (hb hby at_102) rfl k) ?_
  obtain ⟨_, _, ⟨T7, L7, k7, n7⟩, -, X7, ⟨Lc7, hQ7, l7, y7, z7⟩, st7⟩ := X1.specialBack hx (y := (⟨"com/example/tidematch/tidematch/greedy/VertexTable", "<init>", "(Z)V"⟩ : MethodName)) rfl hown (mvT hZ (hw _ (List.mem_of_getElem? (i := 4) rfl))) (mvT hZ (hw _ (List.mem_of_getElem? (i := 5) rfl))) (mvT hZ (hw _ (List.mem_of_getElem? (i := 6) rfl))) (by decide) (backOf (W := 1) (rm1 l Z a0 hw [] b1 kp h1 n0 z3 A1 F4 F5 F6 g2) hZ (hw _ (List.mem_of_getElem? (i := 6) rfl)) (hw _ (List.mem_of_getElem? (i := 3) rfl)) (by decide) (by decide)) (g := (mkF m 104 #[.val (.int p1), .val (.int p2), .val (.int p3), .val (.int p4), .val (.long q5), .second, .val (.int kp), .val (.int (((p4.toUInt32 >>> ((1 : Int32) &&& 31).toUInt32).toInt32) &&& (3 : Int32))), .val (.int (p1 &&& (2147483647 : Int32))), .val (.int (p2 &&& (2147483647 : Int32))), .val (.int (p3 &&& (2147483647 : Int32))), .val (.int hA), .val (.int hB), .val (.int hC), .unset, .unset, .unset, .unset, .unset] [(.int kp), (.ref b1), (.ref b1)])) rfl (by rw [hml]; rfl) (Steps.refl _) (a := b1) (argsL := [(.int kp)]) (rest := [(.ref b1)]) (lenOf pd_4 rfl) rfl (by show 2 * 0 + _ ≤ _; exact Nat.le_of_eq rfl) (hb hby at_104) (fun _ _ => ⟨rfl, e1, (by decide : 1 + 2 ≤ _), (by decide : 3 + 32 ≤ _)⟩)
  dsimp only [Pt.U, Pt.locs, Pt.cells, Pt.slots] at X7 l7 y7 z7 st7 hQ7
  subst l7 y7 z7
  obtain ⟨rfl, N7q, K7, sl7, mv7, u7, TB7, w7⟩ := hQ7
  have N8 := Fr.app N0 N7q
  have f9 := A1.keep K7
  have z10 := Nat.le_trans z3 K7.1
  refine Go.via (S' := T7.setTop (mkF m 107 #[.val (.int p1), .val (.int p2), .val (.int p3), .val (.int p4), .val (.long q5), .second, .val (.int kp), .val (.int (((p4.toUInt32 >>> ((1 : Int32) &&& 31).toUInt32).toInt32) &&& (3 : Int32))), .val (.int (p1 &&& (2147483647 : Int32))), .val (.int (p2 &&& (2147483647 : Int32))), .val (.int (p3 &&& (2147483647 : Int32))), .val (.int hA), .val (.int hB), .val (.int hC), .unset, .unset, .unset, .unset, .unset] [(.ref b1)])) (fun _ k => st7.trans k) ?_
  refine Go.via (S' := T7.setTop (mkF m 109 #[.val (.int p1), .val (.int p2), .val (.int p3), .val (.int p4), .val (.long q5), .second, .val (.int kp), .val (.int (((p4.toUInt32 >>> ((1 : Int32) &&& 31).toUInt32).toInt32) &&& (3 : Int32))), .val (.int (p1 &&& (2147483647 : Int32))), .val (.int (p2 &&& (2147483647 : Int32))), .val (.int (p3 &&& (2147483647 : Int32))), .val (.int hA), .val (.int hB), .val (.int hC), .val (.ref b1), .unset, .unset, .unset, .unset] [])) (fun _ k => XS.astore X7.here hx rfl (hb hby at_107) rfl rfl (l' := #[.val (.int p1), .val (.int p2), .val (.int p3), .val (.int p4), .val (.long q5), .second, .val (.int kp), .val (.int (((p4.toUInt32 >>> ((1 : Int32) &&& 31).toUInt32).toInt32) &&& (3 : Int32))), .val (.int (p1 &&& (2147483647 : Int32))), .val (.int (p2 &&& (2147483647 : Int32))), .val (.int (p3 &&& (2147483647 : Int32))), .val (.int hA), .val (.int hB), .val (.int hC), .val (.ref b1), .unset, .unset, .unset, .unset]) rfl k) ?_
  suffices J122 : ∀ (T11 : State) (h11 : Heap) (lo11 : List Loc) (mA : Nat) (NA : Int64 → Nat) (X11 : Stand p l e room_1 s m #[(.int p1), (.int p2), (.int p3), (.int p4), (.long q5)] below meth c T11 lo11 3 35) (e11 : T11.heap = h11) (N11 : Fr n0 lo11) (z11 : n0 ≤ h11.size) (fn11_0 : own_TB Z h11 n0 b1 sl7 16 mA mv7 NA) (fn11_1 : Exa Z h11 b1 "com/example/tidematch/tidematch/greedy/VertexTable") (hmA : mA ≤ 1) (hNA : ∀ q, NA q = own_b hA (p1 &&& (2147483647 : Int32)) q), Go p e below s (Q0 Z p1 p2 p3 p4 q5 h0 n0) room_1.cells room_1.slots (T11.setTop (mkF m 122 #[.val (.int p1), .val (.int p2), .val (.int p3), .val (.int p4), .val (.long q5), .second, .val (.int kp), .val (.int (((p4.toUInt32 >>> ((1 : Int32) &&& 31).toUInt32).toInt32) &&& (3 : Int32))), .val (.int (p1 &&& (2147483647 : Int32))), .val (.int (p2 &&& (2147483647 : Int32))), .val (.int (p3 &&& (2147483647 : Int32))), .val (.int hA), .val (.int hB), .val (.int hC), .val (.ref b1), .unset, .unset, .unset, .unset] [])) by
    refine Go.via (S' := T7.setTop (mkF m 111 #[.val (.int p1), .val (.int p2), .val (.int p3), .val (.int p4), .val (.long q5), .second, .val (.int kp), .val (.int (((p4.toUInt32 >>> ((1 : Int32) &&& 31).toUInt32).toInt32) &&& (3 : Int32))), .val (.int (p1 &&& (2147483647 : Int32))), .val (.int (p2 &&& (2147483647 : Int32))), .val (.int (p3 &&& (2147483647 : Int32))), .val (.int hA), .val (.int hB), .val (.int hC), .val (.ref b1), .unset, .unset, .unset, .unset] [(.int hA)])) (fun _ k => XS.iload X7.here hx rfl (hb hby at_109) rfl k) ?_
    rcases Decidable.em (hA = (0 : Int32)) with hc111 | hc111
    · refine Go.via (S' := T7.setTop (mkF m 122 #[.val (.int p1), .val (.int p2), .val (.int p3), .val (.int p4), .val (.long q5), .second, .val (.int kp), .val (.int (((p4.toUInt32 >>> ((1 : Int32) &&& 31).toUInt32).toInt32) &&& (3 : Int32))), .val (.int (p1 &&& (2147483647 : Int32))), .val (.int (p2 &&& (2147483647 : Int32))), .val (.int (p3 &&& (2147483647 : Int32))), .val (.int hA), .val (.int hB), .val (.int hC), .val (.ref b1), .unset, .unset, .unset, .unset] [])) (fun _ k => XS.ifYes X7.here hx rfl (pc0 := 111) (pc' := 122) rfl (hb hby at_111) rfl ((if0 _ _).trans (teq hc111).1) (by decide) (by decide) k) ?_
      exact J122 T7 T7.heap _ 0 (fun _ => 0) (X7.more (by decide) (by decide)) rfl N8 z10 TB7 f9 (by omega) (fun q => by simp [own_b, hc111])
    · refine Go.via (S' := T7.setTop (mkF m 114 #[.val (.int p1), .val (.int p2), .val (.int p3), .val (.int p4), .val (.long q5), .second, .val (.int kp), .val (.int (((p4.toUInt32 >>> ((1 : Int32) &&& 31).toUInt32).toInt32) &&& (3 : Int32))), .val (.int (p1 &&& (2147483647 : Int32))), .val (.int (p2 &&& (2147483647 : Int32))), .val (.int (p3 &&& (2147483647 : Int32))), .val (.int hA), .val (.int hB), .val (.int hC), .val (.ref b1), .unset, .unset, .unset, .unset] [])) (fun _ k => XS.ifNo X7.here hx rfl (hb hby at_111) rfl ((if0 _ _).trans (feq hc111).1) k) ?_
      refine Go.via (S' := T7.setTop (mkF m 116 #[.val (.int p1), .val (.int p2), .val (.int p3), .val (.int p4), .val (.long q5), .second, .val (.int kp), .val (.int (((p4.toUInt32 >>> ((1 : Int32) &&& 31).toUInt32).toInt32) &&& (3 : Int32))), .val (.int (p1 &&& (2147483647 : Int32))), .val (.int (p2 &&& (2147483647 : Int32))), .val (.int (p3 &&& (2147483647 : Int32))), .val (.int hA), .val (.int hB), .val (.int hC), .val (.ref b1), .unset, .unset, .unset, .unset] [(.ref b1)])) (fun _ k => XS.aload X7.here hx rfl (hb hby at_114) rfl rfl k) ?_
      refine Go.via (S' := T7.setTop (mkF m 118 #[.val (.int p1), .val (.int p2), .val (.int p3), .val (.int p4), .val (.long q5), .second, .val (.int kp), .val (.int (((p4.toUInt32 >>> ((1 : Int32) &&& 31).toUInt32).toInt32) &&& (3 : Int32))), .val (.int (p1 &&& (2147483647 : Int32))), .val (.int (p2 &&& (2147483647 : Int32))), .val (.int (p3 &&& (2147483647 : Int32))), .val (.int hA), .val (.int hB), .val (.int hC), .val (.ref b1), .unset, .unset, .unset, .unset] [(.int (p1 &&& (2147483647 : Int32))), (.ref b1)])) (fun _ k => XS.iload X7.here hx rfl (hb hby at_116) rfl k) ?_
      obtain ⟨cq12, kq12, q12a, q12b, q12c⟩ := isOf hZ rfl f9
      obtain ⟨_, _, ⟨T12, L12, k12, n12⟩, -, X12, ⟨Lc12, hQ12, l12, y12, z12⟩, st12⟩ := X7.virtualBack hx (y := (⟨"com/example/tidematch/tidematch/greedy/VertexTable", "insert", "(I)I"⟩ : MethodName)) (z := (⟨"com/example/tidematch/tidematch/greedy/VertexTable", "insert", "(I)I"⟩ : MethodName)) hown (mvT hZ (hw _ (List.mem_of_getElem? (i := 32) rfl))) (mvT hZ (hw _ (List.mem_of_getElem? (i := 33) rfl))) (notFace_of_selects (args := #[]) (mvT hZ (hw _ (List.mem_of_getElem? (i := 35) rfl)))) (mvT hZ (hw _ (List.mem_of_getElem? (i := 35) rfl))) (mvT hZ (hw _ (List.mem_of_getElem? (i := 34) rfl))) (by decide) (backOf (W := 0) (rm7a l Z a0 hw [] b1 (p1 &&& (2147483647 : Int32)) sl7 0 mv7 (fun _ => 0) T7.heap n0 z10 TB7 (by omega) (own_nonneg p1) g2) hZ (hw _ (List.mem_of_getElem? (i := 36) rfl)) (hw _ (List.mem_of_getElem? (i := 3) rfl)) (by decide) (by decide)) q12a q12c (g := (mkF m 118 #[.val (.int p1), .val (.int p2), .val (.int p3), .val (.int p4), .val (.long q5), .second, .val (.int kp), .val (.int (((p4.toUInt32 >>> ((1 : Int32) &&& 31).toUInt32).toInt32) &&& (3 : Int32))), .val (.int (p1 &&& (2147483647 : Int32))), .val (.int (p2 &&& (2147483647 : Int32))), .val (.int (p3 &&& (2147483647 : Int32))), .val (.int hA), .val (.int hB), .val (.int hC), .val (.ref b1), .unset, .unset, .unset, .unset] [(.int (p1 &&& (2147483647 : Int32))), (.ref b1)])) rfl (by rw [hml]; rfl) (Steps.refl _) (argsL := [(.int (p1 &&& (2147483647 : Int32)))]) (rest := []) (lenOf pd_2 rfl) rfl (by show 2 * 0 + _ ≤ _; exact Nat.le_of_eq rfl) (hb hby at_118) (fun _ _ => ⟨rfl, rfl, (by decide : 3 + 0 ≤ _), (by decide : 35 + 0 ≤ _)⟩)
      dsimp only [Pt.U, Pt.locs, Pt.cells, Pt.slots] at X12 l12 y12 z12 st12 hQ12
      subst l12 y12 z12
      obtain ⟨⟨r12, rfl⟩, N12q, K12, TB12⟩ := hQ12
      have N13 := Fr.app N8 N12q
      have f14 := f9.keep K12
      have z15 := Nat.le_trans z10 K12.1
      refine Go.via (S' := T12.setTop (mkF m 121 #[.val (.int p1), .val (.int p2), .val (.int p3), .val (.int p4), .val (.long q5), .second, .val (.int kp), .val (.int (((p4.toUInt32 >>> ((1 : Int32) &&& 31).toUInt32).toInt32) &&& (3 : Int32))), .val (.int (p1 &&& (2147483647 : Int32))), .val (.int (p2 &&& (2147483647 : Int32))), .val (.int (p3 &&& (2147483647 : Int32))), .val (.int hA), .val (.int hB), .val (.int hC), .val (.ref b1), .unset, .unset, .unset, .unset] [(.int r12)])) (fun _ k => st12.trans k) ?_
      refine Go.via (S' := T12.setTop (mkF m 122 #[.val (.int p1), .val (.int p2), .val (.int p3), .val (.int p4), .val (.long q5), .second, .val (.int kp), .val (.int (((p4.toUInt32 >>> ((1 : Int32) &&& 31).toUInt32).toInt32) &&& (3 : Int32))), .val (.int (p1 &&& (2147483647 : Int32))), .val (.int (p2 &&& (2147483647 : Int32))), .val (.int (p3 &&& (2147483647 : Int32))), .val (.int hA), .val (.int hB), .val (.int hC), .val (.ref b1), .unset, .unset, .unset, .unset] [])) (fun _ k => XS.pop X12.here hx rfl (hb hby at_121) rfl rfl k) ?_
      exact J122 T12 T12.heap _ (0 + 1) (fun q => (fun _ => 0) q + if (p1 &&& (2147483647 : Int32)).toInt64 < q then 1 else 0) (X12.more (by decide) (by decide)) rfl N13 z15 TB12 f14 (by omega) (fun q => by simp [own_b, hc111])
  intro T11 h11 lo11 mA NA X11 e11 N11 z11 fn11_0 fn11_1 hmA hNA
  suffices J135 : ∀ (T16 : State) (h16 : Heap) (lo16 : List Loc) (mB : Nat) (NB : Int64 → Nat) (X16 : Stand p l e room_1 s m #[(.int p1), (.int p2), (.int p3), (.int p4), (.long q5)] below meth c T16 lo16 3 35) (e16 : T16.heap = h16) (N16 : Fr n0 lo16) (z16 : n0 ≤ h16.size) (fn16_0 : own_TB Z h16 n0 b1 sl7 16 mB mv7 NB) (fn16_1 : Exa Z h16 b1 "com/example/tidematch/tidematch/greedy/VertexTable") (hmB : mB ≤ 2) (hNB : ∀ q, NB q = own_b hA (p1 &&& (2147483647 : Int32)) q + own_b hB (p2 &&& (2147483647 : Int32)) q), Go p e below s (Q0 Z p1 p2 p3 p4 q5 h0 n0) room_1.cells room_1.slots (T16.setTop (mkF m 135 #[.val (.int p1), .val (.int p2), .val (.int p3), .val (.int p4), .val (.long q5), .second, .val (.int kp), .val (.int (((p4.toUInt32 >>> ((1 : Int32) &&& 31).toUInt32).toInt32) &&& (3 : Int32))), .val (.int (p1 &&& (2147483647 : Int32))), .val (.int (p2 &&& (2147483647 : Int32))), .val (.int (p3 &&& (2147483647 : Int32))), .val (.int hA), .val (.int hB), .val (.int hC), .val (.ref b1), .unset, .unset, .unset, .unset] [])) by
    refine Go.via (S' := T11.setTop (mkF m 124 #[.val (.int p1), .val (.int p2), .val (.int p3), .val (.int p4), .val (.long q5), .second, .val (.int kp), .val (.int (((p4.toUInt32 >>> ((1 : Int32) &&& 31).toUInt32).toInt32) &&& (3 : Int32))), .val (.int (p1 &&& (2147483647 : Int32))), .val (.int (p2 &&& (2147483647 : Int32))), .val (.int (p3 &&& (2147483647 : Int32))), .val (.int hA), .val (.int hB), .val (.int hC), .val (.ref b1), .unset, .unset, .unset, .unset] [(.int hB)])) (fun _ k => XS.iload X11.here hx rfl (hb hby at_122) rfl k) ?_
    rcases Decidable.em (hB = (0 : Int32)) with hc124 | hc124
    · refine Go.via (S' := T11.setTop (mkF m 135 #[.val (.int p1), .val (.int p2), .val (.int p3), .val (.int p4), .val (.long q5), .second, .val (.int kp), .val (.int (((p4.toUInt32 >>> ((1 : Int32) &&& 31).toUInt32).toInt32) &&& (3 : Int32))), .val (.int (p1 &&& (2147483647 : Int32))), .val (.int (p2 &&& (2147483647 : Int32))), .val (.int (p3 &&& (2147483647 : Int32))), .val (.int hA), .val (.int hB), .val (.int hC), .val (.ref b1), .unset, .unset, .unset, .unset] [])) (fun _ k => XS.ifYes X11.here hx rfl (pc0 := 124) (pc' := 135) rfl (hb hby at_124) rfl ((if0 _ _).trans (teq hc124).1) (by decide) (by decide) k) ?_
      exact J135 T11 h11 _ mA NA (X11.more (by decide) (by decide)) e11 N11 z11 fn11_0 fn11_1 (by omega) (fun q => by simp [own_b, hc124, hNA])
    · refine Go.via (S' := T11.setTop (mkF m 127 #[.val (.int p1), .val (.int p2), .val (.int p3), .val (.int p4), .val (.long q5), .second, .val (.int kp), .val (.int (((p4.toUInt32 >>> ((1 : Int32) &&& 31).toUInt32).toInt32) &&& (3 : Int32))), .val (.int (p1 &&& (2147483647 : Int32))), .val (.int (p2 &&& (2147483647 : Int32))), .val (.int (p3 &&& (2147483647 : Int32))), .val (.int hA), .val (.int hB), .val (.int hC), .val (.ref b1), .unset, .unset, .unset, .unset] [])) (fun _ k => XS.ifNo X11.here hx rfl (hb hby at_124) rfl ((if0 _ _).trans (feq hc124).1) k) ?_
      refine Go.via (S' := T11.setTop (mkF m 129 #[.val (.int p1), .val (.int p2), .val (.int p3), .val (.int p4), .val (.long q5), .second, .val (.int kp), .val (.int (((p4.toUInt32 >>> ((1 : Int32) &&& 31).toUInt32).toInt32) &&& (3 : Int32))), .val (.int (p1 &&& (2147483647 : Int32))), .val (.int (p2 &&& (2147483647 : Int32))), .val (.int (p3 &&& (2147483647 : Int32))), .val (.int hA), .val (.int hB), .val (.int hC), .val (.ref b1), .unset, .unset, .unset, .unset] [(.ref b1)])) (fun _ k => XS.aload X11.here hx rfl (hb hby at_127) rfl rfl k) ?_
      refine Go.via (S' := T11.setTop (mkF m 131 #[.val (.int p1), .val (.int p2), .val (.int p3), .val (.int p4), .val (.long q5), .second, .val (.int kp), .val (.int (((p4.toUInt32 >>> ((1 : Int32) &&& 31).toUInt32).toInt32) &&& (3 : Int32))), .val (.int (p1 &&& (2147483647 : Int32))), .val (.int (p2 &&& (2147483647 : Int32))), .val (.int (p3 &&& (2147483647 : Int32))), .val (.int hA), .val (.int hB), .val (.int hC), .val (.ref b1), .unset, .unset, .unset, .unset] [(.int (p2 &&& (2147483647 : Int32))), (.ref b1)])) (fun _ k => XS.iload X11.here hx rfl (hb hby at_129) rfl k) ?_
      obtain ⟨cq17, kq17, q17a, q17b, q17c⟩ := isOf hZ e11 fn11_1
      obtain ⟨_, _, ⟨T17, L17, k17, n17⟩, -, X17, ⟨Lc17, hQ17, l17, y17, z17⟩, st17⟩ := X11.virtualBack hx (y := (⟨"com/example/tidematch/tidematch/greedy/VertexTable", "insert", "(I)I"⟩ : MethodName)) (z := (⟨"com/example/tidematch/tidematch/greedy/VertexTable", "insert", "(I)I"⟩ : MethodName)) hown (mvT hZ (hw _ (List.mem_of_getElem? (i := 32) rfl))) (mvT hZ (hw _ (List.mem_of_getElem? (i := 33) rfl))) (notFace_of_selects (args := #[]) (mvT hZ (hw _ (List.mem_of_getElem? (i := 35) rfl)))) (mvT hZ (hw _ (List.mem_of_getElem? (i := 35) rfl))) (mvT hZ (hw _ (List.mem_of_getElem? (i := 34) rfl))) (by decide) (backOf (W := 0) (rm7a l Z a0 hw [] b1 (p2 &&& (2147483647 : Int32)) sl7 mA mv7 NA h11 n0 z11 fn11_0 (by omega) (own_nonneg p2) g2) hZ (hw _ (List.mem_of_getElem? (i := 36) rfl)) (hw _ (List.mem_of_getElem? (i := 3) rfl)) (by decide) (by decide)) q17a q17c (g := (mkF m 131 #[.val (.int p1), .val (.int p2), .val (.int p3), .val (.int p4), .val (.long q5), .second, .val (.int kp), .val (.int (((p4.toUInt32 >>> ((1 : Int32) &&& 31).toUInt32).toInt32) &&& (3 : Int32))), .val (.int (p1 &&& (2147483647 : Int32))), .val (.int (p2 &&& (2147483647 : Int32))), .val (.int (p3 &&& (2147483647 : Int32))), .val (.int hA), .val (.int hB), .val (.int hC), .val (.ref b1), .unset, .unset, .unset, .unset] [(.int (p2 &&& (2147483647 : Int32))), (.ref b1)])) rfl (by rw [hml]; rfl) (Steps.refl _) (argsL := [(.int (p2 &&& (2147483647 : Int32)))]) (rest := []) (lenOf pd_2 rfl) rfl (by show 2 * 0 + _ ≤ _; exact Nat.le_of_eq rfl) (hb hby at_131) (fun _ _ => ⟨rfl, e11, (by decide : 3 + 0 ≤ _), (by decide : 35 + 0 ≤ _)⟩)
      dsimp only [Pt.U, Pt.locs, Pt.cells, Pt.slots] at X17 l17 y17 z17 st17 hQ17
      subst l17 y17 z17
      obtain ⟨⟨r17, rfl⟩, N17q, K17, TB17⟩ := hQ17
      have N18 := Fr.app N11 N17q
      have f19 := fn11_1.keep K17
      have z20 := Nat.le_trans z11 K17.1
      refine Go.via (S' := T17.setTop (mkF m 134 #[.val (.int p1), .val (.int p2), .val (.int p3), .val (.int p4), .val (.long q5), .second, .val (.int kp), .val (.int (((p4.toUInt32 >>> ((1 : Int32) &&& 31).toUInt32).toInt32) &&& (3 : Int32))), .val (.int (p1 &&& (2147483647 : Int32))), .val (.int (p2 &&& (2147483647 : Int32))), .val (.int (p3 &&& (2147483647 : Int32))), .val (.int hA), .val (.int hB), .val (.int hC), .val (.ref b1), .unset, .unset, .unset, .unset] [(.int r17)])) (fun _ k => st17.trans k) ?_
      refine Go.via (S' := T17.setTop (mkF m 135 #[.val (.int p1), .val (.int p2), .val (.int p3), .val (.int p4), .val (.long q5), .second, .val (.int kp), .val (.int (((p4.toUInt32 >>> ((1 : Int32) &&& 31).toUInt32).toInt32) &&& (3 : Int32))), .val (.int (p1 &&& (2147483647 : Int32))), .val (.int (p2 &&& (2147483647 : Int32))), .val (.int (p3 &&& (2147483647 : Int32))), .val (.int hA), .val (.int hB), .val (.int hC), .val (.ref b1), .unset, .unset, .unset, .unset] [])) (fun _ k => XS.pop X17.here hx rfl (hb hby at_134) rfl rfl k) ?_
      exact J135 T17 T17.heap _ (mA + 1) (fun q => NA q + if (p2 &&& (2147483647 : Int32)).toInt64 < q then 1 else 0) (X17.more (by decide) (by decide)) rfl N18 z20 TB17 f19 (by omega) (fun q => by simp [own_b, hc124, hNA])
  intro T16 h16 lo16 mB NB X16 e16 N16 z16 fn16_0 fn16_1 hmB hNB
  suffices J148 : ∀ (T21 : State) (h21 : Heap) (lo21 : List Loc) (mC : Nat) (NC : Int64 → Nat) (X21 : Stand p l e room_1 s m #[(.int p1), (.int p2), (.int p3), (.int p4), (.long q5)] below meth c T21 lo21 3 35) (e21 : T21.heap = h21) (N21 : Fr n0 lo21) (z21 : n0 ≤ h21.size) (fn21_0 : own_TB Z h21 n0 b1 sl7 16 mC mv7 NC) (fn21_1 : Exa Z h21 b1 "com/example/tidematch/tidematch/greedy/VertexTable") (hmC : mC ≤ 3) (hNC : ∀ q, NC q = own_b hA (p1 &&& (2147483647 : Int32)) q + own_b hB (p2 &&& (2147483647 : Int32)) q + own_b hC (p3 &&& (2147483647 : Int32)) q), Go p e below s (Q0 Z p1 p2 p3 p4 q5 h0 n0) room_1.cells room_1.slots (T21.setTop (mkF m 148 #[.val (.int p1), .val (.int p2), .val (.int p3), .val (.int p4), .val (.long q5), .second, .val (.int kp), .val (.int (((p4.toUInt32 >>> ((1 : Int32) &&& 31).toUInt32).toInt32) &&& (3 : Int32))), .val (.int (p1 &&& (2147483647 : Int32))), .val (.int (p2 &&& (2147483647 : Int32))), .val (.int (p3 &&& (2147483647 : Int32))), .val (.int hA), .val (.int hB), .val (.int hC), .val (.ref b1), .unset, .unset, .unset, .unset] [])) by
    refine Go.via (S' := T16.setTop (mkF m 137 #[.val (.int p1), .val (.int p2), .val (.int p3), .val (.int p4), .val (.long q5), .second, .val (.int kp), .val (.int (((p4.toUInt32 >>> ((1 : Int32) &&& 31).toUInt32).toInt32) &&& (3 : Int32))), .val (.int (p1 &&& (2147483647 : Int32))), .val (.int (p2 &&& (2147483647 : Int32))), .val (.int (p3 &&& (2147483647 : Int32))), .val (.int hA), .val (.int hB), .val (.int hC), .val (.ref b1), .unset, .unset, .unset, .unset] [(.int hC)])) (fun _ k => XS.iload X16.here hx rfl (hb hby at_135) rfl k) ?_
    rcases Decidable.em (hC = (0 : Int32)) with hc137 | hc137
    · refine Go.via (S' := T16.setTop (mkF m 148 #[.val (.int p1), .val (.int p2), .val (.int p3), .val (.int p4), .val (.long q5), .second, .val (.int kp), .val (.int (((p4.toUInt32 >>> ((1 : Int32) &&& 31).toUInt32).toInt32) &&& (3 : Int32))), .val (.int (p1 &&& (2147483647 : Int32))), .val (.int (p2 &&& (2147483647 : Int32))), .val (.int (p3 &&& (2147483647 : Int32))), .val (.int hA), .val (.int hB), .val (.int hC), .val (.ref b1), .unset, .unset, .unset, .unset] [])) (fun _ k => XS.ifYes X16.here hx rfl (pc0 := 137) (pc' := 148) rfl (hb hby at_137) rfl ((if0 _ _).trans (teq hc137).1) (by decide) (by decide) k) ?_
      exact J148 T16 h16 _ mB NB (X16.more (by decide) (by decide)) e16 N16 z16 fn16_0 fn16_1 (by omega) (fun q => by simp [own_b, hc137, hNB])
    · refine Go.via (S' := T16.setTop (mkF m 140 #[.val (.int p1), .val (.int p2), .val (.int p3), .val (.int p4), .val (.long q5), .second, .val (.int kp), .val (.int (((p4.toUInt32 >>> ((1 : Int32) &&& 31).toUInt32).toInt32) &&& (3 : Int32))), .val (.int (p1 &&& (2147483647 : Int32))), .val (.int (p2 &&& (2147483647 : Int32))), .val (.int (p3 &&& (2147483647 : Int32))), .val (.int hA), .val (.int hB), .val (.int hC), .val (.ref b1), .unset, .unset, .unset, .unset] [])) (fun _ k => XS.ifNo X16.here hx rfl (hb hby at_137) rfl ((if0 _ _).trans (feq hc137).1) k) ?_
      refine Go.via (S' := T16.setTop (mkF m 142 #[.val (.int p1), .val (.int p2), .val (.int p3), .val (.int p4), .val (.long q5), .second, .val (.int kp), .val (.int (((p4.toUInt32 >>> ((1 : Int32) &&& 31).toUInt32).toInt32) &&& (3 : Int32))), .val (.int (p1 &&& (2147483647 : Int32))), .val (.int (p2 &&& (2147483647 : Int32))), .val (.int (p3 &&& (2147483647 : Int32))), .val (.int hA), .val (.int hB), .val (.int hC), .val (.ref b1), .unset, .unset, .unset, .unset] [(.ref b1)])) (fun _ k => XS.aload X16.here hx rfl (hb hby at_140) rfl rfl k) ?_
      refine Go.via (S' := T16.setTop (mkF m 144 #[.val (.int p1), .val (.int p2), .val (.int p3), .val (.int p4), .val (.long q5), .second, .val (.int kp), .val (.int (((p4.toUInt32 >>> ((1 : Int32) &&& 31).toUInt32).toInt32) &&& (3 : Int32))), .val (.int (p1 &&& (2147483647 : Int32))), .val (.int (p2 &&& (2147483647 : Int32))), .val (.int (p3 &&& (2147483647 : Int32))), .val (.int hA), .val (.int hB), .val (.int hC), .val (.ref b1), .unset, .unset, .unset, .unset] [(.int (p3 &&& (2147483647 : Int32))), (.ref b1)])) (fun _ k => XS.iload X16.here hx rfl (hb hby at_142) rfl k) ?_
      obtain ⟨cq22, kq22, q22a, q22b, q22c⟩ := isOf hZ e16 fn16_1
      obtain ⟨_, _, ⟨T22, L22, k22, n22⟩, -, X22, ⟨Lc22, hQ22, l22, y22, z22⟩, st22⟩ := X16.virtualBack hx (y := (⟨"com/example/tidematch/tidematch/greedy/VertexTable", "insert", "(I)I"⟩ : MethodName)) (z := (⟨"com/example/tidematch/tidematch/greedy/VertexTable", "insert", "(I)I"⟩ : MethodName)) hown (mvT hZ (hw _ (List.mem_of_getElem? (i := 32) rfl))) (mvT hZ (hw _ (List.mem_of_getElem? (i := 33) rfl))) (notFace_of_selects (args := #[]) (mvT hZ (hw _ (List.mem_of_getElem? (i := 35) rfl)))) (mvT hZ (hw _ (List.mem_of_getElem? (i := 35) rfl))) (mvT hZ (hw _ (List.mem_of_getElem? (i := 34) rfl))) (by decide) (backOf (W := 0) (rm7a l Z a0 hw [] b1 (p3 &&& (2147483647 : Int32)) sl7 mB mv7 NB h16 n0 z16 fn16_0 (by omega) (own_nonneg p3) g2) hZ (hw _ (List.mem_of_getElem? (i := 36) rfl)) (hw _ (List.mem_of_getElem? (i := 3) rfl)) (by decide) (by decide)) q22a q22c (g := (mkF m 144 #[.val (.int p1), .val (.int p2), .val (.int p3), .val (.int p4), .val (.long q5), .second, .val (.int kp), .val (.int (((p4.toUInt32 >>> ((1 : Int32) &&& 31).toUInt32).toInt32) &&& (3 : Int32))), .val (.int (p1 &&& (2147483647 : Int32))), .val (.int (p2 &&& (2147483647 : Int32))), .val (.int (p3 &&& (2147483647 : Int32))), .val (.int hA), .val (.int hB), .val (.int hC), .val (.ref b1), .unset, .unset, .unset, .unset] [(.int (p3 &&& (2147483647 : Int32))), (.ref b1)])) rfl (by rw [hml]; rfl) (Steps.refl _) (argsL := [(.int (p3 &&& (2147483647 : Int32)))]) (rest := []) (lenOf pd_2 rfl) rfl (by show 2 * 0 + _ ≤ _; exact Nat.le_of_eq rfl) (hb hby at_144) (fun _ _ => ⟨rfl, e16, (by decide : 3 + 0 ≤ _), (by decide : 35 + 0 ≤ _)⟩)
      dsimp only [Pt.U, Pt.locs, Pt.cells, Pt.slots] at X22 l22 y22 z22 st22 hQ22
      subst l22 y22 z22
      obtain ⟨⟨r22, rfl⟩, N22q, K22, TB22⟩ := hQ22
      have N23 := Fr.app N16 N22q
      have f24 := fn16_1.keep K22
      have z25 := Nat.le_trans z16 K22.1
      refine Go.via (S' := T22.setTop (mkF m 147 #[.val (.int p1), .val (.int p2), .val (.int p3), .val (.int p4), .val (.long q5), .second, .val (.int kp), .val (.int (((p4.toUInt32 >>> ((1 : Int32) &&& 31).toUInt32).toInt32) &&& (3 : Int32))), .val (.int (p1 &&& (2147483647 : Int32))), .val (.int (p2 &&& (2147483647 : Int32))), .val (.int (p3 &&& (2147483647 : Int32))), .val (.int hA), .val (.int hB), .val (.int hC), .val (.ref b1), .unset, .unset, .unset, .unset] [(.int r22)])) (fun _ k => st22.trans k) ?_
      refine Go.via (S' := T22.setTop (mkF m 148 #[.val (.int p1), .val (.int p2), .val (.int p3), .val (.int p4), .val (.long q5), .second, .val (.int kp), .val (.int (((p4.toUInt32 >>> ((1 : Int32) &&& 31).toUInt32).toInt32) &&& (3 : Int32))), .val (.int (p1 &&& (2147483647 : Int32))), .val (.int (p2 &&& (2147483647 : Int32))), .val (.int (p3 &&& (2147483647 : Int32))), .val (.int hA), .val (.int hB), .val (.int hC), .val (.ref b1), .unset, .unset, .unset, .unset] [])) (fun _ k => XS.pop X22.here hx rfl (hb hby at_147) rfl rfl k) ?_
      exact J148 T22 T22.heap _ (mB + 1) (fun q => NB q + if (p3 &&& (2147483647 : Int32)).toInt64 < q then 1 else 0) (X22.more (by decide) (by decide)) rfl N23 z25 TB22 f24 (by omega) (fun q => by simp [own_b, hc137, hNB])
  intro T21 h21 lo21 mC NC X21 e21 N21 z21 fn21_0 fn21_1 hmC hNC
  suffices J163 : ∀ (pv : Int32), Go p e below s (Q0 Z p1 p2 p3 p4 q5 h0 n0) room_1.cells room_1.slots (T21.setTop (mkF m 163 #[.val (.int p1), .val (.int p2), .val (.int p3), .val (.int p4), .val (.long q5), .second, .val (.int kp), .val (.int (((p4.toUInt32 >>> ((1 : Int32) &&& 31).toUInt32).toInt32) &&& (3 : Int32))), .val (.int (p1 &&& (2147483647 : Int32))), .val (.int (p2 &&& (2147483647 : Int32))), .val (.int (p3 &&& (2147483647 : Int32))), .val (.int hA), .val (.int hB), .val (.int hC), .val (.ref b1), .unset, .unset, .unset, .unset] [(.int pv)])) by
    refine Go.via (S' := T21.setTop (mkF m 149 #[.val (.int p1), .val (.int p2), .val (.int p3), .val (.int p4), .val (.long q5), .second, .val (.int kp), .val (.int (((p4.toUInt32 >>> ((1 : Int32) &&& 31).toUInt32).toInt32) &&& (3 : Int32))), .val (.int (p1 &&& (2147483647 : Int32))), .val (.int (p2 &&& (2147483647 : Int32))), .val (.int (p3 &&& (2147483647 : Int32))), .val (.int hA), .val (.int hB), .val (.int hC), .val (.ref b1), .unset, .unset, .unset, .unset] [(.int p4)])) (fun _ k => XS.iloadN X21.here hx rfl (hb hby at_148) rfl k) ?_
    refine Go.via (S' := T21.setTop (mkF m 150 #[.val (.int p1), .val (.int p2), .val (.int p3), .val (.int p4), .val (.long q5), .second, .val (.int kp), .val (.int (((p4.toUInt32 >>> ((1 : Int32) &&& 31).toUInt32).toInt32) &&& (3 : Int32))), .val (.int (p1 &&& (2147483647 : Int32))), .val (.int (p2 &&& (2147483647 : Int32))), .val (.int (p3 &&& (2147483647 : Int32))), .val (.int hA), .val (.int hB), .val (.int hC), .val (.ref b1), .unset, .unset, .unset, .unset] [(.int (4 : Int32)), (.int p4)])) (fun _ k => XS.iconst X21.here hx rfl (hb hby at_149) k) ?_
    refine Go.via (S' := T21.setTop (mkF m 151 #[.val (.int p1), .val (.int p2), .val (.int p3), .val (.int p4), .val (.long q5), .second, .val (.int kp), .val (.int (((p4.toUInt32 >>> ((1 : Int32) &&& 31).toUInt32).toInt32) &&& (3 : Int32))), .val (.int (p1 &&& (2147483647 : Int32))), .val (.int (p2 &&& (2147483647 : Int32))), .val (.int (p3 &&& (2147483647 : Int32))), .val (.int hA), .val (.int hB), .val (.int hC), .val (.ref b1), .unset, .unset, .unset, .unset] [(.int ((p4.toUInt32 >>> ((4 : Int32) &&& 31).toUInt32).toInt32))])) (fun _ k => XS.iushr X21.here hx rfl (hb hby at_150) rfl k) ?_
    refine Go.via (S' := T21.setTop (mkF m 152 #[.val (.int p1), .val (.int p2), .val (.int p3), .val (.int p4), .val (.long q5), .second, .val (.int kp), .val (.int (((p4.toUInt32 >>> ((1 : Int32) &&& 31).toUInt32).toInt32) &&& (3 : Int32))), .val (.int (p1 &&& (2147483647 : Int32))), .val (.int (p2 &&& (2147483647 : Int32))), .val (.int (p3 &&& (2147483647 : Int32))), .val (.int hA), .val (.int hB), .val (.int hC), .val (.ref b1), .unset, .unset, .unset, .unset] [(.int (1 : Int32)), (.int ((p4.toUInt32 >>> ((4 : Int32) &&& 31).toUInt32).toInt32))])) (fun _ k => XS.iconst X21.here hx rfl (hb hby at_151) k) ?_
    refine Go.via (S' := T21.setTop (mkF m 153 #[.val (.int p1), .val (.int p2), .val (.int p3), .val (.int p4), .val (.long q5), .second, .val (.int kp), .val (.int (((p4.toUInt32 >>> ((1 : Int32) &&& 31).toUInt32).toInt32) &&& (3 : Int32))), .val (.int (p1 &&& (2147483647 : Int32))), .val (.int (p2 &&& (2147483647 : Int32))), .val (.int (p3 &&& (2147483647 : Int32))), .val (.int hA), .val (.int hB), .val (.int hC), .val (.ref b1), .unset, .unset, .unset, .unset] [(.int (((p4.toUInt32 >>> ((4 : Int32) &&& 31).toUInt32).toInt32) &&& (1 : Int32)))])) (fun _ k => XS.iand X21.here hx rfl (hb hby at_152) rfl k) ?_
    rcases Decidable.em ((((p4.toUInt32 >>> ((4 : Int32) &&& 31).toUInt32).toInt32) &&& (1 : Int32)) = (0 : Int32)) with hc153 | hc153
    · refine Go.via (S' := T21.setTop (mkF m 161 #[.val (.int p1), .val (.int p2), .val (.int p3), .val (.int p4), .val (.long q5), .second, .val (.int kp), .val (.int (((p4.toUInt32 >>> ((1 : Int32) &&& 31).toUInt32).toInt32) &&& (3 : Int32))), .val (.int (p1 &&& (2147483647 : Int32))), .val (.int (p2 &&& (2147483647 : Int32))), .val (.int (p3 &&& (2147483647 : Int32))), .val (.int hA), .val (.int hB), .val (.int hC), .val (.ref b1), .unset, .unset, .unset, .unset] [])) (fun _ k => XS.ifYes X21.here hx rfl (pc0 := 153) (pc' := 161) rfl (hb hby at_153) rfl ((if0 _ _).trans (teq hc153).1) (by decide) (by decide) k) ?_
      refine Go.via (S' := T21.setTop (mkF m 163 #[.val (.int p1), .val (.int p2), .val (.int p3), .val (.int p4), .val (.long q5), .second, .val (.int kp), .val (.int (((p4.toUInt32 >>> ((1 : Int32) &&& 31).toUInt32).toInt32) &&& (3 : Int32))), .val (.int (p1 &&& (2147483647 : Int32))), .val (.int (p2 &&& (2147483647 : Int32))), .val (.int (p3 &&& (2147483647 : Int32))), .val (.int hA), .val (.int hB), .val (.int hC), .val (.ref b1), .unset, .unset, .unset, .unset] [(.int (p1 &&& (2147483647 : Int32)))])) (fun _ k => XS.iload X21.here hx rfl (hb hby at_161) rfl k) ?_
      exact J163 _
    · refine Go.via (S' := T21.setTop (mkF m 156 #[.val (.int p1), .val (.int p2), .val (.int p3), .val (.int p4), .val (.long q5), .second, .val (.int kp), .val (.int (((p4.toUInt32 >>> ((1 : Int32) &&& 31).toUInt32).toInt32) &&& (3 : Int32))), .val (.int (p1 &&& (2147483647 : Int32))), .val (.int (p2 &&& (2147483647 : Int32))), .val (.int (p3 &&& (2147483647 : Int32))), .val (.int hA), .val (.int hB), .val (.int hC), .val (.ref b1), .unset, .unset, .unset, .unset] [])) (fun _ k => XS.ifNo X21.here hx rfl (hb hby at_153) rfl ((if0 _ _).trans (feq hc153).1) k) ?_
      refine Go.via (S' := T21.setTop (mkF m 158 #[.val (.int p1), .val (.int p2), .val (.int p3), .val (.int p4), .val (.long q5), .second, .val (.int kp), .val (.int (((p4.toUInt32 >>> ((1 : Int32) &&& 31).toUInt32).toInt32) &&& (3 : Int32))), .val (.int (p1 &&& (2147483647 : Int32))), .val (.int (p2 &&& (2147483647 : Int32))), .val (.int (p3 &&& (2147483647 : Int32))), .val (.int hA), .val (.int hB), .val (.int hC), .val (.ref b1), .unset, .unset, .unset, .unset] [(.int (p2 &&& (2147483647 : Int32)))])) (fun _ k => XS.iload X21.here hx rfl (hb hby at_156) rfl k) ?_
      refine Go.via (S' := T21.setTop (mkF m 163 #[.val (.int p1), .val (.int p2), .val (.int p3), .val (.int p4), .val (.long q5), .second, .val (.int kp), .val (.int (((p4.toUInt32 >>> ((1 : Int32) &&& 31).toUInt32).toInt32) &&& (3 : Int32))), .val (.int (p1 &&& (2147483647 : Int32))), .val (.int (p2 &&& (2147483647 : Int32))), .val (.int (p3 &&& (2147483647 : Int32))), .val (.int hA), .val (.int hB), .val (.int hC), .val (.ref b1), .unset, .unset, .unset, .unset] [(.int (p2 &&& (2147483647 : Int32)))])) (fun _ k => XS.goto X21.here hx rfl (pc0 := 158) (pc' := 163) rfl (hb hby at_158) (by decide) (by decide) k) ?_
      exact J163 _
  intro pv
  refine Go.via (S' := T21.setTop (mkF m 165 #[.val (.int p1), .val (.int p2), .val (.int p3), .val (.int p4), .val (.long q5), .second, .val (.int kp), .val (.int (((p4.toUInt32 >>> ((1 : Int32) &&& 31).toUInt32).toInt32) &&& (3 : Int32))), .val (.int (p1 &&& (2147483647 : Int32))), .val (.int (p2 &&& (2147483647 : Int32))), .val (.int (p3 &&& (2147483647 : Int32))), .val (.int hA), .val (.int hB), .val (.int hC), .val (.ref b1), .val (.int pv), .unset, .unset, .unset] [])) (fun _ k => XS.istore X21.here hx rfl (hb hby at_163) rfl (l' := #[.val (.int p1), .val (.int p2), .val (.int p3), .val (.int p4), .val (.long q5), .second, .val (.int kp), .val (.int (((p4.toUInt32 >>> ((1 : Int32) &&& 31).toUInt32).toInt32) &&& (3 : Int32))), .val (.int (p1 &&& (2147483647 : Int32))), .val (.int (p2 &&& (2147483647 : Int32))), .val (.int (p3 &&& (2147483647 : Int32))), .val (.int hA), .val (.int hB), .val (.int hC), .val (.ref b1), .val (.int pv), .unset, .unset, .unset]) rfl k) ?_
  suffices J188 : ∀ (lim : Int64), Go p e below s (Q0 Z p1 p2 p3 p4 q5 h0 n0) room_1.cells room_1.slots (T21.setTop (mkF m 188 #[.val (.int p1), .val (.int p2), .val (.int p3), .val (.int p4), .val (.long q5), .second, .val (.int kp), .val (.int (((p4.toUInt32 >>> ((1 : Int32) &&& 31).toUInt32).toInt32) &&& (3 : Int32))), .val (.int (p1 &&& (2147483647 : Int32))), .val (.int (p2 &&& (2147483647 : Int32))), .val (.int (p3 &&& (2147483647 : Int32))), .val (.int hA), .val (.int hB), .val (.int hC), .val (.ref b1), .val (.int pv), .unset, .unset, .unset] [(.long lim)])) by
    refine Go.via (S' := T21.setTop (mkF m 166 #[.val (.int p1), .val (.int p2), .val (.int p3), .val (.int p4), .val (.long q5), .second, .val (.int kp), .val (.int (((p4.toUInt32 >>> ((1 : Int32) &&& 31).toUInt32).toInt32) &&& (3 : Int32))), .val (.int (p1 &&& (2147483647 : Int32))), .val (.int (p2 &&& (2147483647 : Int32))), .val (.int (p3 &&& (2147483647 : Int32))), .val (.int hA), .val (.int hB), .val (.int hC), .val (.ref b1), .val (.int pv), .unset, .unset, .unset] [(.int p4)])) (fun _ k => XS.iloadN X21.here hx rfl (hb hby at_165) rfl k) ?_
    refine Go.via (S' := T21.setTop (mkF m 167 #[.val (.int p1), .val (.int p2), .val (.int p3), .val (.int p4), .val (.long q5), .second, .val (.int kp), .val (.int (((p4.toUInt32 >>> ((1 : Int32) &&& 31).toUInt32).toInt32) &&& (3 : Int32))), .val (.int (p1 &&& (2147483647 : Int32))), .val (.int (p2 &&& (2147483647 : Int32))), .val (.int (p3 &&& (2147483647 : Int32))), .val (.int hA), .val (.int hB), .val (.int hC), .val (.ref b1), .val (.int pv), .unset, .unset, .unset] [(.int (3 : Int32)), (.int p4)])) (fun _ k => XS.iconst X21.here hx rfl (hb hby at_166) k) ?_
    refine Go.via (S' := T21.setTop (mkF m 168 #[.val (.int p1), .val (.int p2), .val (.int p3), .val (.int p4), .val (.long q5), .second, .val (.int kp), .val (.int (((p4.toUInt32 >>> ((1 : Int32) &&& 31).toUInt32).toInt32) &&& (3 : Int32))), .val (.int (p1 &&& (2147483647 : Int32))), .val (.int (p2 &&& (2147483647 : Int32))), .val (.int (p3 &&& (2147483647 : Int32))), .val (.int hA), .val (.int hB), .val (.int hC), .val (.ref b1), .val (.int pv), .unset, .unset, .unset] [(.int ((p4.toUInt32 >>> ((3 : Int32) &&& 31).toUInt32).toInt32))])) (fun _ k => XS.iushr X21.here hx rfl (hb hby at_167) rfl k) ?_
    refine Go.via (S' := T21.setTop (mkF m 169 #[.val (.int p1), .val (.int p2), .val (.int p3), .val (.int p4), .val (.long q5), .second, .val (.int kp), .val (.int (((p4.toUInt32 >>> ((1 : Int32) &&& 31).toUInt32).toInt32) &&& (3 : Int32))), .val (.int (p1 &&& (2147483647 : Int32))), .val (.int (p2 &&& (2147483647 : Int32))), .val (.int (p3 &&& (2147483647 : Int32))), .val (.int hA), .val (.int hB), .val (.int hC), .val (.ref b1), .val (.int pv), .unset, .unset, .unset] [(.int (1 : Int32)), (.int ((p4.toUInt32 >>> ((3 : Int32) &&& 31).toUInt32).toInt32))])) (fun _ k => XS.iconst X21.here hx rfl (hb hby at_168) k) ?_
    refine Go.via (S' := T21.setTop (mkF m 170 #[.val (.int p1), .val (.int p2), .val (.int p3), .val (.int p4), .val (.long q5), .second, .val (.int kp), .val (.int (((p4.toUInt32 >>> ((1 : Int32) &&& 31).toUInt32).toInt32) &&& (3 : Int32))), .val (.int (p1 &&& (2147483647 : Int32))), .val (.int (p2 &&& (2147483647 : Int32))), .val (.int (p3 &&& (2147483647 : Int32))), .val (.int hA), .val (.int hB), .val (.int hC), .val (.ref b1), .val (.int pv), .unset, .unset, .unset] [(.int (((p4.toUInt32 >>> ((3 : Int32) &&& 31).toUInt32).toInt32) &&& (1 : Int32)))])) (fun _ k => XS.iand X21.here hx rfl (hb hby at_169) rfl k) ?_
    rcases Decidable.em ((((p4.toUInt32 >>> ((3 : Int32) &&& 31).toUInt32).toInt32) &&& (1 : Int32)) = (0 : Int32)) with hc170 | hc170
    · refine Go.via (S' := T21.setTop (mkF m 178 #[.val (.int p1), .val (.int p2), .val (.int p3), .val (.int p4), .val (.long q5), .second, .val (.int kp), .val (.int (((p4.toUInt32 >>> ((1 : Int32) &&& 31).toUInt32).toInt32) &&& (3 : Int32))), .val (.int (p1 &&& (2147483647 : Int32))), .val (.int (p2 &&& (2147483647 : Int32))), .val (.int (p3 &&& (2147483647 : Int32))), .val (.int hA), .val (.int hB), .val (.int hC), .val (.ref b1), .val (.int pv), .unset, .unset, .unset] [])) (fun _ k => XS.ifYes X21.here hx rfl (pc0 := 170) (pc' := 178) rfl (hb hby at_170) rfl ((if0 _ _).trans (teq hc170).1) (by decide) (by decide) k) ?_
      refine Go.via (S' := T21.setTop (mkF m 180 #[.val (.int p1), .val (.int p2), .val (.int p3), .val (.int p4), .val (.long q5), .second, .val (.int kp), .val (.int (((p4.toUInt32 >>> ((1 : Int32) &&& 31).toUInt32).toInt32) &&& (3 : Int32))), .val (.int (p1 &&& (2147483647 : Int32))), .val (.int (p2 &&& (2147483647 : Int32))), .val (.int (p3 &&& (2147483647 : Int32))), .val (.int hA), .val (.int hB), .val (.int hC), .val (.ref b1), .val (.int pv), .unset, .unset, .unset] [(.int pv)])) (fun _ k => XS.iload X21.here hx rfl (hb hby at_178) rfl k) ?_
      refine Go.via (S' := T21.setTop (mkF m 181 #[.val (.int p1), .val (.int p2), .val (.int p3), .val (.int p4), .val (.long q5), .second, .val (.int kp), .val (.int (((p4.toUInt32 >>> ((1 : Int32) &&& 31).toUInt32).toInt32) &&& (3 : Int32))), .val (.int (p1 &&& (2147483647 : Int32))), .val (.int (p2 &&& (2147483647 : Int32))), .val (.int (p3 &&& (2147483647 : Int32))), .val (.int hA), .val (.int hB), .val (.int hC), .val (.ref b1), .val (.int pv), .unset, .unset, .unset] [(.long (pv.toInt64))])) (fun _ k => XS.i2l X21.here hx rfl (hb hby at_180) rfl k) ?_
      refine Go.via (S' := T21.setTop (mkF m 183 #[.val (.int p1), .val (.int p2), .val (.int p3), .val (.int p4), .val (.long q5), .second, .val (.int kp), .val (.int (((p4.toUInt32 >>> ((1 : Int32) &&& 31).toUInt32).toInt32) &&& (3 : Int32))), .val (.int (p1 &&& (2147483647 : Int32))), .val (.int (p2 &&& (2147483647 : Int32))), .val (.int (p3 &&& (2147483647 : Int32))), .val (.int hA), .val (.int hB), .val (.int hC), .val (.ref b1), .val (.int pv), .unset, .unset, .unset] [(.long q5), (.long (pv.toInt64))])) (fun _ k => XS.lload X21.here hx rfl (hb hby at_181) rfl k) ?_
      refine Go.via (S' := T21.setTop (mkF m 186 #[.val (.int p1), .val (.int p2), .val (.int p3), .val (.int p4), .val (.long q5), .second, .val (.int kp), .val (.int (((p4.toUInt32 >>> ((1 : Int32) &&& 31).toUInt32).toInt32) &&& (3 : Int32))), .val (.int (p1 &&& (2147483647 : Int32))), .val (.int (p2 &&& (2147483647 : Int32))), .val (.int (p3 &&& (2147483647 : Int32))), .val (.int hA), .val (.int hB), .val (.int hC), .val (.ref b1), .val (.int pv), .unset, .unset, .unset] [(.long (3 : Int64)), (.long q5), (.long (pv.toInt64))])) (fun _ k => X21.ldc2Long hx hown (mvT hZ (hw _ (List.mem_of_getElem? (i := 22) rfl))) (g := (mkF m 183 #[.val (.int p1), .val (.int p2), .val (.int p3), .val (.int p4), .val (.long q5), .second, .val (.int kp), .val (.int (((p4.toUInt32 >>> ((1 : Int32) &&& 31).toUInt32).toInt32) &&& (3 : Int32))), .val (.int (p1 &&& (2147483647 : Int32))), .val (.int (p2 &&& (2147483647 : Int32))), .val (.int (p3 &&& (2147483647 : Int32))), .val (.int hA), .val (.int hB), .val (.int hC), .val (.ref b1), .val (.int pv), .unset, .unset, .unset] [(.long q5), (.long (pv.toInt64))])) rfl (hb hby at_183) _ k) ?_
      refine Go.via (S' := T21.setTop (mkF m 187 #[.val (.int p1), .val (.int p2), .val (.int p3), .val (.int p4), .val (.long q5), .second, .val (.int kp), .val (.int (((p4.toUInt32 >>> ((1 : Int32) &&& 31).toUInt32).toInt32) &&& (3 : Int32))), .val (.int (p1 &&& (2147483647 : Int32))), .val (.int (p2 &&& (2147483647 : Int32))), .val (.int (p3 &&& (2147483647 : Int32))), .val (.int hA), .val (.int hB), .val (.int hC), .val (.ref b1), .val (.int pv), .unset, .unset, .unset] [(.long (q5 - (q5 / (3 : Int64)) * (3 : Int64))), (.long (pv.toInt64))])) (fun _ k => XS.lrem X21.here hx rfl (hb hby at_186) rfl (by decide) k) ?_
      refine Go.via (S' := T21.setTop (mkF m 188 #[.val (.int p1), .val (.int p2), .val (.int p3), .val (.int p4), .val (.long q5), .second, .val (.int kp), .val (.int (((p4.toUInt32 >>> ((1 : Int32) &&& 31).toUInt32).toInt32) &&& (3 : Int32))), .val (.int (p1 &&& (2147483647 : Int32))), .val (.int (p2 &&& (2147483647 : Int32))), .val (.int (p3 &&& (2147483647 : Int32))), .val (.int hA), .val (.int hB), .val (.int hC), .val (.ref b1), .val (.int pv), .unset, .unset, .unset] [(.long ((pv.toInt64) + (q5 - (q5 / (3 : Int64)) * (3 : Int64))))])) (fun _ k => XS.ladd X21.here hx rfl (hb hby at_187) rfl k) ?_
      exact J188 _
    · refine Go.via (S' := T21.setTop (mkF m 173 #[.val (.int p1), .val (.int p2), .val (.int p3), .val (.int p4), .val (.long q5), .second, .val (.int kp), .val (.int (((p4.toUInt32 >>> ((1 : Int32) &&& 31).toUInt32).toInt32) &&& (3 : Int32))), .val (.int (p1 &&& (2147483647 : Int32))), .val (.int (p2 &&& (2147483647 : Int32))), .val (.int (p3 &&& (2147483647 : Int32))), .val (.int hA), .val (.int hB), .val (.int hC), .val (.ref b1), .val (.int pv), .unset, .unset, .unset] [])) (fun _ k => XS.ifNo X21.here hx rfl (hb hby at_170) rfl ((if0 _ _).trans (feq hc170).1) k) ?_
      refine Go.via (S' := T21.setTop (mkF m 175 #[.val (.int p1), .val (.int p2), .val (.int p3), .val (.int p4), .val (.long q5), .second, .val (.int kp), .val (.int (((p4.toUInt32 >>> ((1 : Int32) &&& 31).toUInt32).toInt32) &&& (3 : Int32))), .val (.int (p1 &&& (2147483647 : Int32))), .val (.int (p2 &&& (2147483647 : Int32))), .val (.int (p3 &&& (2147483647 : Int32))), .val (.int hA), .val (.int hB), .val (.int hC), .val (.ref b1), .val (.int pv), .unset, .unset, .unset] [(.long q5)])) (fun _ k => XS.lload X21.here hx rfl (hb hby at_173) rfl k) ?_
      refine Go.via (S' := T21.setTop (mkF m 188 #[.val (.int p1), .val (.int p2), .val (.int p3), .val (.int p4), .val (.long q5), .second, .val (.int kp), .val (.int (((p4.toUInt32 >>> ((1 : Int32) &&& 31).toUInt32).toInt32) &&& (3 : Int32))), .val (.int (p1 &&& (2147483647 : Int32))), .val (.int (p2 &&& (2147483647 : Int32))), .val (.int (p3 &&& (2147483647 : Int32))), .val (.int hA), .val (.int hB), .val (.int hC), .val (.ref b1), .val (.int pv), .unset, .unset, .unset] [(.long q5)])) (fun _ k => XS.goto X21.here hx rfl (pc0 := 175) (pc' := 188) rfl (hb hby at_175) (by decide) (by decide) k) ?_
      exact J188 _
  intro lim
  refine Go.via (S' := T21.setTop (mkF m 190 #[.val (.int p1), .val (.int p2), .val (.int p3), .val (.int p4), .val (.long q5), .second, .val (.int kp), .val (.int (((p4.toUInt32 >>> ((1 : Int32) &&& 31).toUInt32).toInt32) &&& (3 : Int32))), .val (.int (p1 &&& (2147483647 : Int32))), .val (.int (p2 &&& (2147483647 : Int32))), .val (.int (p3 &&& (2147483647 : Int32))), .val (.int hA), .val (.int hB), .val (.int hC), .val (.ref b1), .val (.int pv), .val (.long lim), .second, .unset] [])) (fun _ k => XS.lstore X21.here hx rfl (hb hby at_188) rfl (l' := #[.val (.int p1), .val (.int p2), .val (.int p3), .val (.int p4), .val (.long q5), .second, .val (.int kp), .val (.int (((p4.toUInt32 >>> ((1 : Int32) &&& 31).toUInt32).toInt32) &&& (3 : Int32))), .val (.int (p1 &&& (2147483647 : Int32))), .val (.int (p2 &&& (2147483647 : Int32))), .val (.int (p3 &&& (2147483647 : Int32))), .val (.int hA), .val (.int hB), .val (.int hC), .val (.ref b1), .val (.int pv), .val (.long lim), .second, .unset]) rfl k) ?_
  refine Go.via (S' := T21.setTop (mkF m 192 #[.val (.int p1), .val (.int p2), .val (.int p3), .val (.int p4), .val (.long q5), .second, .val (.int kp), .val (.int (((p4.toUInt32 >>> ((1 : Int32) &&& 31).toUInt32).toInt32) &&& (3 : Int32))), .val (.int (p1 &&& (2147483647 : Int32))), .val (.int (p2 &&& (2147483647 : Int32))), .val (.int (p3 &&& (2147483647 : Int32))), .val (.int hA), .val (.int hB), .val (.int hC), .val (.ref b1), .val (.int pv), .val (.long lim), .second, .unset] [(.int hA)])) (fun _ k => XS.iload X21.here hx rfl (hb hby at_190) rfl k) ?_
  refine Go.via (S' := T21.setTop (mkF m 194 #[.val (.int p1), .val (.int p2), .val (.int p3), .val (.int p4), .val (.long q5), .second, .val (.int kp), .val (.int (((p4.toUInt32 >>> ((1 : Int32) &&& 31).toUInt32).toInt32) &&& (3 : Int32))), .val (.int (p1 &&& (2147483647 : Int32))), .val (.int (p2 &&& (2147483647 : Int32))), .val (.int (p3 &&& (2147483647 : Int32))), .val (.int hA), .val (.int hB), .val (.int hC), .val (.ref b1), .val (.int pv), .val (.long lim), .second, .unset] [(.int (p1 &&& (2147483647 : Int32))), (.int hA)])) (fun _ k => XS.iload X21.here hx rfl (hb hby at_192) rfl k) ?_
  refine Go.via (S' := T21.setTop (mkF m 196 #[.val (.int p1), .val (.int p2), .val (.int p3), .val (.int p4), .val (.long q5), .second, .val (.int kp), .val (.int (((p4.toUInt32 >>> ((1 : Int32) &&& 31).toUInt32).toInt32) &&& (3 : Int32))), .val (.int (p1 &&& (2147483647 : Int32))), .val (.int (p2 &&& (2147483647 : Int32))), .val (.int (p3 &&& (2147483647 : Int32))), .val (.int hA), .val (.int hB), .val (.int hC), .val (.ref b1), .val (.int pv), .val (.long lim), .second, .unset] [(.long lim), (.int (p1 &&& (2147483647 : Int32))), (.int hA)])) (fun _ k => XS.lload X21.here hx rfl (hb hby at_194) rfl k) ?_
  obtain ⟨_, _, ⟨T26, L26, k26, n26⟩, -, X26, ⟨Lc26, hQ26, l26, y26, z26⟩, st26⟩ := Jvm.LawKit.callS X21 hx (y := (⟨"com/example/tidematch/tidematch/greedy/VertexTableCountBelowPinLaw", "below", "(ZIJ)I"⟩ : MethodName)) hown (mvT hZ (hw _ (List.mem_of_getElem? (i := 23) rfl))) (mvT hZ (hw _ (List.mem_of_getElem? (i := 24) rfl))) (mvT hZ (hw _ (List.mem_of_getElem? (i := 25) rfl))) (mvT hZ (hw _ (List.mem_of_getElem? (i := 26) rfl))) (by decide) (backOf (W := 0) (rm5 l Z a0 hw [] hA (p1 &&& (2147483647 : Int32)) lim h21 n0 z21) hZ (hw _ (List.mem_of_getElem? (i := 26) rfl)) (hw _ (List.mem_of_getElem? (i := 25) rfl)) (by decide) (by decide)) (g := (mkF m 196 #[.val (.int p1), .val (.int p2), .val (.int p3), .val (.int p4), .val (.long q5), .second, .val (.int kp), .val (.int (((p4.toUInt32 >>> ((1 : Int32) &&& 31).toUInt32).toInt32) &&& (3 : Int32))), .val (.int (p1 &&& (2147483647 : Int32))), .val (.int (p2 &&& (2147483647 : Int32))), .val (.int (p3 &&& (2147483647 : Int32))), .val (.int hA), .val (.int hB), .val (.int hC), .val (.ref b1), .val (.int pv), .val (.long lim), .second, .unset] [(.long lim), (.int (p1 &&& (2147483647 : Int32))), (.int hA)])) rfl (by rw [hml]; rfl) (argsL := [(.int hA), (.int (p1 &&& (2147483647 : Int32))), (.long lim)]) (rest := []) (lenOf pd_5 rfl) rfl (by show 2 * 0 + _ ≤ _; exact Nat.le_of_eq rfl) (hb hby at_196) (fun _ _ => ⟨rfl, e21, (by decide : 3 + 0 ≤ _), (by decide : 35 + 0 ≤ _)⟩)
  dsimp only [Pt.U, Pt.locs, Pt.cells, Pt.slots] at X26 l26 y26 z26 st26 hQ26
  subst l26 y26 z26
  obtain ⟨rfl, N26q, e26⟩ := hQ26
  have N27 := Fr.app N21 N26q
  refine Go.via (S' := T26.setTop (mkF m 199 #[.val (.int p1), .val (.int p2), .val (.int p3), .val (.int p4), .val (.long q5), .second, .val (.int kp), .val (.int (((p4.toUInt32 >>> ((1 : Int32) &&& 31).toUInt32).toInt32) &&& (3 : Int32))), .val (.int (p1 &&& (2147483647 : Int32))), .val (.int (p2 &&& (2147483647 : Int32))), .val (.int (p3 &&& (2147483647 : Int32))), .val (.int hA), .val (.int hB), .val (.int hC), .val (.ref b1), .val (.int pv), .val (.long lim), .second, .unset] [(.int (Int32.ofNat (own_b hA (p1 &&& (2147483647 : Int32)) lim)))])) (fun _ k => st26 _ k) ?_
  refine Go.via (S' := T26.setTop (mkF m 201 #[.val (.int p1), .val (.int p2), .val (.int p3), .val (.int p4), .val (.long q5), .second, .val (.int kp), .val (.int (((p4.toUInt32 >>> ((1 : Int32) &&& 31).toUInt32).toInt32) &&& (3 : Int32))), .val (.int (p1 &&& (2147483647 : Int32))), .val (.int (p2 &&& (2147483647 : Int32))), .val (.int (p3 &&& (2147483647 : Int32))), .val (.int hA), .val (.int hB), .val (.int hC), .val (.ref b1), .val (.int pv), .val (.long lim), .second, .unset] [(.int hB), (.int (Int32.ofNat (own_b hA (p1 &&& (2147483647 : Int32)) lim)))])) (fun _ k => XS.iload X26.here hx rfl (hb hby at_199) rfl k) ?_
  refine Go.via (S' := T26.setTop (mkF m 203 #[.val (.int p1), .val (.int p2), .val (.int p3), .val (.int p4), .val (.long q5), .second, .val (.int kp), .val (.int (((p4.toUInt32 >>> ((1 : Int32) &&& 31).toUInt32).toInt32) &&& (3 : Int32))), .val (.int (p1 &&& (2147483647 : Int32))), .val (.int (p2 &&& (2147483647 : Int32))), .val (.int (p3 &&& (2147483647 : Int32))), .val (.int hA), .val (.int hB), .val (.int hC), .val (.ref b1), .val (.int pv), .val (.long lim), .second, .unset] [(.int (p2 &&& (2147483647 : Int32))), (.int hB), (.int (Int32.ofNat (own_b hA (p1 &&& (2147483647 : Int32)) lim)))])) (fun _ k => XS.iload X26.here hx rfl (hb hby at_201) rfl k) ?_
  refine Go.via (S' := T26.setTop (mkF m 205 #[.val (.int p1), .val (.int p2), .val (.int p3), .val (.int p4), .val (.long q5), .second, .val (.int kp), .val (.int (((p4.toUInt32 >>> ((1 : Int32) &&& 31).toUInt32).toInt32) &&& (3 : Int32))), .val (.int (p1 &&& (2147483647 : Int32))), .val (.int (p2 &&& (2147483647 : Int32))), .val (.int (p3 &&& (2147483647 : Int32))), .val (.int hA), .val (.int hB), .val (.int hC), .val (.ref b1), .val (.int pv), .val (.long lim), .second, .unset] [(.long lim), (.int (p2 &&& (2147483647 : Int32))), (.int hB), (.int (Int32.ofNat (own_b hA (p1 &&& (2147483647 : Int32)) lim)))])) (fun _ k => XS.lload X26.here hx rfl (hb hby at_203) rfl k) ?_
  obtain ⟨_, _, ⟨T28, L28, k28, n28⟩, -, X28, ⟨Lc28, hQ28, l28, y28, z28⟩, st28⟩ := Jvm.LawKit.callS X26 hx (y := (⟨"com/example/tidematch/tidematch/greedy/VertexTableCountBelowPinLaw", "below", "(ZIJ)I"⟩ : MethodName)) hown (mvT hZ (hw _ (List.mem_of_getElem? (i := 23) rfl))) (mvT hZ (hw _ (List.mem_of_getElem? (i := 24) rfl))) (mvT hZ (hw _ (List.mem_of_getElem? (i := 25) rfl))) (mvT hZ (hw _ (List.mem_of_getElem? (i := 26) rfl))) (by decide) (backOf (W := 1) (rm5 l Z a0 hw [] hB (p2 &&& (2147483647 : Int32)) lim h21 n0 z21) hZ (hw _ (List.mem_of_getElem? (i := 26) rfl)) (hw _ (List.mem_of_getElem? (i := 25) rfl)) (by decide) (by decide)) (g := (mkF m 205 #[.val (.int p1), .val (.int p2), .val (.int p3), .val (.int p4), .val (.long q5), .second, .val (.int kp), .val (.int (((p4.toUInt32 >>> ((1 : Int32) &&& 31).toUInt32).toInt32) &&& (3 : Int32))), .val (.int (p1 &&& (2147483647 : Int32))), .val (.int (p2 &&& (2147483647 : Int32))), .val (.int (p3 &&& (2147483647 : Int32))), .val (.int hA), .val (.int hB), .val (.int hC), .val (.ref b1), .val (.int pv), .val (.long lim), .second, .unset] [(.long lim), (.int (p2 &&& (2147483647 : Int32))), (.int hB), (.int (Int32.ofNat (own_b hA (p1 &&& (2147483647 : Int32)) lim)))])) rfl (by rw [hml]; rfl) (argsL := [(.int hB), (.int (p2 &&& (2147483647 : Int32))), (.long lim)]) (rest := [(.int (Int32.ofNat (own_b hA (p1 &&& (2147483647 : Int32)) lim)))]) (lenOf pd_5 rfl) rfl (by show 2 * 0 + _ ≤ _; exact Nat.le_of_eq rfl) (hb hby at_205) (fun _ _ => ⟨rfl, e26, (by decide : 3 + 0 ≤ _), (by decide : 35 + 0 ≤ _)⟩)
  dsimp only [Pt.U, Pt.locs, Pt.cells, Pt.slots] at X28 l28 y28 z28 st28 hQ28
  subst l28 y28 z28
  obtain ⟨rfl, N28q, e28⟩ := hQ28
  have N29 := Fr.app N27 N28q
  refine Go.via (S' := T28.setTop (mkF m 208 #[.val (.int p1), .val (.int p2), .val (.int p3), .val (.int p4), .val (.long q5), .second, .val (.int kp), .val (.int (((p4.toUInt32 >>> ((1 : Int32) &&& 31).toUInt32).toInt32) &&& (3 : Int32))), .val (.int (p1 &&& (2147483647 : Int32))), .val (.int (p2 &&& (2147483647 : Int32))), .val (.int (p3 &&& (2147483647 : Int32))), .val (.int hA), .val (.int hB), .val (.int hC), .val (.ref b1), .val (.int pv), .val (.long lim), .second, .unset] [(.int (Int32.ofNat (own_b hB (p2 &&& (2147483647 : Int32)) lim))), (.int (Int32.ofNat (own_b hA (p1 &&& (2147483647 : Int32)) lim)))])) (fun _ k => st28 _ k) ?_
  refine Go.via (S' := T28.setTop (mkF m 209 #[.val (.int p1), .val (.int p2), .val (.int p3), .val (.int p4), .val (.long q5), .second, .val (.int kp), .val (.int (((p4.toUInt32 >>> ((1 : Int32) &&& 31).toUInt32).toInt32) &&& (3 : Int32))), .val (.int (p1 &&& (2147483647 : Int32))), .val (.int (p2 &&& (2147483647 : Int32))), .val (.int (p3 &&& (2147483647 : Int32))), .val (.int hA), .val (.int hB), .val (.int hC), .val (.ref b1), .val (.int pv), .val (.long lim), .second, .unset] [(.int ((Int32.ofNat (own_b hA (p1 &&& (2147483647 : Int32)) lim)) + (Int32.ofNat (own_b hB (p2 &&& (2147483647 : Int32)) lim))))])) (fun _ k => XS.iadd X28.here hx rfl (hb hby at_208) rfl k) ?_
  refine Go.via (S' := T28.setTop (mkF m 211 #[.val (.int p1), .val (.int p2), .val (.int p3), .val (.int p4), .val (.long q5), .second, .val (.int kp), .val (.int (((p4.toUInt32 >>> ((1 : Int32) &&& 31).toUInt32).toInt32) &&& (3 : Int32))), .val (.int (p1 &&& (2147483647 : Int32))), .val (.int (p2 &&& (2147483647 : Int32))), .val (.int (p3 &&& (2147483647 : Int32))), .val (.int hA), .val (.int hB), .val (.int hC), .val (.ref b1), .val (.int pv), .val (.long lim), .second, .unset] [(.int hC), (.int ((Int32.ofNat (own_b hA (p1 &&& (2147483647 : Int32)) lim)) + (Int32.ofNat (own_b hB (p2 &&& (2147483647 : Int32)) lim))))])) (fun _ k => XS.iload X28.here hx rfl (hb hby at_209) rfl k) ?_
  refine Go.via (S' := T28.setTop (mkF m 213 #[.val (.int p1), .val (.int p2), .val (.int p3), .val (.int p4), .val (.long q5), .second, .val (.int kp), .val (.int (((p4.toUInt32 >>> ((1 : Int32) &&& 31).toUInt32).toInt32) &&& (3 : Int32))), .val (.int (p1 &&& (2147483647 : Int32))), .val (.int (p2 &&& (2147483647 : Int32))), .val (.int (p3 &&& (2147483647 : Int32))), .val (.int hA), .val (.int hB), .val (.int hC), .val (.ref b1), .val (.int pv), .val (.long lim), .second, .unset] [(.int (p3 &&& (2147483647 : Int32))), (.int hC), (.int ((Int32.ofNat (own_b hA (p1 &&& (2147483647 : Int32)) lim)) + (Int32.ofNat (own_b hB (p2 &&& (2147483647 : Int32)) lim))))])) (fun _ k => XS.iload X28.here hx rfl (hb hby at_211) rfl k) ?_
  refine Go.via (S' := T28.setTop (mkF m 215 #[.val (.int p1), .val (.int p2), .val (.int p3), .val (.int p4), .val (.long q5), .second, .val (.int kp), .val (.int (((p4.toUInt32 >>> ((1 : Int32) &&& 31).toUInt32).toInt32) &&& (3 : Int32))), .val (.int (p1 &&& (2147483647 : Int32))), .val (.int (p2 &&& (2147483647 : Int32))), .val (.int (p3 &&& (2147483647 : Int32))), .val (.int hA), .val (.int hB), .val (.int hC), .val (.ref b1), .val (.int pv), .val (.long lim), .second, .unset] [(.long lim), (.int (p3 &&& (2147483647 : Int32))), (.int hC), (.int ((Int32.ofNat (own_b hA (p1 &&& (2147483647 : Int32)) lim)) + (Int32.ofNat (own_b hB (p2 &&& (2147483647 : Int32)) lim))))])) (fun _ k => XS.lload X28.here hx rfl (hb hby at_213) rfl k) ?_
  obtain ⟨_, _, ⟨T30, L30, k30, n30⟩, -, X30, ⟨Lc30, hQ30, l30, y30, z30⟩, st30⟩ := Jvm.LawKit.callS X28 hx (y := (⟨"com/example/tidematch/tidematch/greedy/VertexTableCountBelowPinLaw", "below", "(ZIJ)I"⟩ : MethodName)) hown (mvT hZ (hw _ (List.mem_of_getElem? (i := 23) rfl))) (mvT hZ (hw _ (List.mem_of_getElem? (i := 24) rfl))) (mvT hZ (hw _ (List.mem_of_getElem? (i := 25) rfl))) (mvT hZ (hw _ (List.mem_of_getElem? (i := 26) rfl))) (by decide) (backOf (W := 1) (rm5 l Z a0 hw [] hC (p3 &&& (2147483647 : Int32)) lim h21 n0 z21) hZ (hw _ (List.mem_of_getElem? (i := 26) rfl)) (hw _ (List.mem_of_getElem? (i := 25) rfl)) (by decide) (by decide)) (g := (mkF m 215 #[.val (.int p1), .val (.int p2), .val (.int p3), .val (.int p4), .val (.long q5), .second, .val (.int kp), .val (.int (((p4.toUInt32 >>> ((1 : Int32) &&& 31).toUInt32).toInt32) &&& (3 : Int32))), .val (.int (p1 &&& (2147483647 : Int32))), .val (.int (p2 &&& (2147483647 : Int32))), .val (.int (p3 &&& (2147483647 : Int32))), .val (.int hA), .val (.int hB), .val (.int hC), .val (.ref b1), .val (.int pv), .val (.long lim), .second, .unset] [(.long lim), (.int (p3 &&& (2147483647 : Int32))), (.int hC), (.int ((Int32.ofNat (own_b hA (p1 &&& (2147483647 : Int32)) lim)) + (Int32.ofNat (own_b hB (p2 &&& (2147483647 : Int32)) lim))))])) rfl (by rw [hml]; rfl) (argsL := [(.int hC), (.int (p3 &&& (2147483647 : Int32))), (.long lim)]) (rest := [(.int ((Int32.ofNat (own_b hA (p1 &&& (2147483647 : Int32)) lim)) + (Int32.ofNat (own_b hB (p2 &&& (2147483647 : Int32)) lim))))]) (lenOf pd_5 rfl) rfl (by show 2 * 0 + _ ≤ _; exact Nat.le_of_eq rfl) (hb hby at_215) (fun _ _ => ⟨rfl, e28, (by decide : 3 + 0 ≤ _), (by decide : 35 + 0 ≤ _)⟩)
  dsimp only [Pt.U, Pt.locs, Pt.cells, Pt.slots] at X30 l30 y30 z30 st30 hQ30
  subst l30 y30 z30
  obtain ⟨rfl, N30q, e30⟩ := hQ30
  have N31 := Fr.app N29 N30q
  refine Go.via (S' := T30.setTop (mkF m 218 #[.val (.int p1), .val (.int p2), .val (.int p3), .val (.int p4), .val (.long q5), .second, .val (.int kp), .val (.int (((p4.toUInt32 >>> ((1 : Int32) &&& 31).toUInt32).toInt32) &&& (3 : Int32))), .val (.int (p1 &&& (2147483647 : Int32))), .val (.int (p2 &&& (2147483647 : Int32))), .val (.int (p3 &&& (2147483647 : Int32))), .val (.int hA), .val (.int hB), .val (.int hC), .val (.ref b1), .val (.int pv), .val (.long lim), .second, .unset] [(.int (Int32.ofNat (own_b hC (p3 &&& (2147483647 : Int32)) lim))), (.int ((Int32.ofNat (own_b hA (p1 &&& (2147483647 : Int32)) lim)) + (Int32.ofNat (own_b hB (p2 &&& (2147483647 : Int32)) lim))))])) (fun _ k => st30 _ k) ?_
  refine Go.via (S' := T30.setTop (mkF m 219 #[.val (.int p1), .val (.int p2), .val (.int p3), .val (.int p4), .val (.long q5), .second, .val (.int kp), .val (.int (((p4.toUInt32 >>> ((1 : Int32) &&& 31).toUInt32).toInt32) &&& (3 : Int32))), .val (.int (p1 &&& (2147483647 : Int32))), .val (.int (p2 &&& (2147483647 : Int32))), .val (.int (p3 &&& (2147483647 : Int32))), .val (.int hA), .val (.int hB), .val (.int hC), .val (.ref b1), .val (.int pv), .val (.long lim), .second, .unset] [(.int (((Int32.ofNat (own_b hA (p1 &&& (2147483647 : Int32)) lim)) + (Int32.ofNat (own_b hB (p2 &&& (2147483647 : Int32)) lim))) + (Int32.ofNat (own_b hC (p3 &&& (2147483647 : Int32)) lim))))])) (fun _ k => XS.iadd X30.here hx rfl (hb hby at_218) rfl k) ?_
  refine Go.via (S' := T30.setTop (mkF m 221 #[.val (.int p1), .val (.int p2), .val (.int p3), .val (.int p4), .val (.long q5), .second, .val (.int kp), .val (.int (((p4.toUInt32 >>> ((1 : Int32) &&& 31).toUInt32).toInt32) &&& (3 : Int32))), .val (.int (p1 &&& (2147483647 : Int32))), .val (.int (p2 &&& (2147483647 : Int32))), .val (.int (p3 &&& (2147483647 : Int32))), .val (.int hA), .val (.int hB), .val (.int hC), .val (.ref b1), .val (.int pv), .val (.long lim), .second, .val (.int (((Int32.ofNat (own_b hA (p1 &&& (2147483647 : Int32)) lim)) + (Int32.ofNat (own_b hB (p2 &&& (2147483647 : Int32)) lim))) + (Int32.ofNat (own_b hC (p3 &&& (2147483647 : Int32)) lim))))] [])) (fun _ k => XS.istore X30.here hx rfl (hb hby at_219) rfl (l' := #[.val (.int p1), .val (.int p2), .val (.int p3), .val (.int p4), .val (.long q5), .second, .val (.int kp), .val (.int (((p4.toUInt32 >>> ((1 : Int32) &&& 31).toUInt32).toInt32) &&& (3 : Int32))), .val (.int (p1 &&& (2147483647 : Int32))), .val (.int (p2 &&& (2147483647 : Int32))), .val (.int (p3 &&& (2147483647 : Int32))), .val (.int hA), .val (.int hB), .val (.int hC), .val (.ref b1), .val (.int pv), .val (.long lim), .second, .val (.int (((Int32.ofNat (own_b hA (p1 &&& (2147483647 : Int32)) lim)) + (Int32.ofNat (own_b hB (p2 &&& (2147483647 : Int32)) lim))) + (Int32.ofNat (own_b hC (p3 &&& (2147483647 : Int32)) lim))))]) rfl k) ?_
  refine Go.via (S' := T30.setTop (mkF m 223 #[.val (.int p1), .val (.int p2), .val (.int p3), .val (.int p4), .val (.long q5), .second, .val (.int kp), .val (.int (((p4.toUInt32 >>> ((1 : Int32) &&& 31).toUInt32).toInt32) &&& (3 : Int32))), .val (.int (p1 &&& (2147483647 : Int32))), .val (.int (p2 &&& (2147483647 : Int32))), .val (.int (p3 &&& (2147483647 : Int32))), .val (.int hA), .val (.int hB), .val (.int hC), .val (.ref b1), .val (.int pv), .val (.long lim), .second, .val (.int (((Int32.ofNat (own_b hA (p1 &&& (2147483647 : Int32)) lim)) + (Int32.ofNat (own_b hB (p2 &&& (2147483647 : Int32)) lim))) + (Int32.ofNat (own_b hC (p3 &&& (2147483647 : Int32)) lim))))] [(.ref b1)])) (fun _ k => XS.aload X30.here hx rfl (hb hby at_221) rfl rfl k) ?_
  refine Go.via (S' := T30.setTop (mkF m 225 #[.val (.int p1), .val (.int p2), .val (.int p3), .val (.int p4), .val (.long q5), .second, .val (.int kp), .val (.int (((p4.toUInt32 >>> ((1 : Int32) &&& 31).toUInt32).toInt32) &&& (3 : Int32))), .val (.int (p1 &&& (2147483647 : Int32))), .val (.int (p2 &&& (2147483647 : Int32))), .val (.int (p3 &&& (2147483647 : Int32))), .val (.int hA), .val (.int hB), .val (.int hC), .val (.ref b1), .val (.int pv), .val (.long lim), .second, .val (.int (((Int32.ofNat (own_b hA (p1 &&& (2147483647 : Int32)) lim)) + (Int32.ofNat (own_b hB (p2 &&& (2147483647 : Int32)) lim))) + (Int32.ofNat (own_b hC (p3 &&& (2147483647 : Int32)) lim))))] [(.long lim), (.ref b1)])) (fun _ k => XS.lload X30.here hx rfl (hb hby at_223) rfl k) ?_
  obtain ⟨cq32, kq32, q32a, q32b, q32c⟩ := isOf hZ e30 fn21_1
  obtain ⟨_, _, ⟨T32, L32, k32, n32⟩, -, X32, ⟨Lc32, hQ32, l32, y32, z32⟩, st32⟩ := X30.virtualBack hx (y := (⟨"com/example/tidematch/tidematch/greedy/VertexTable", "countBelow", "(J)I"⟩ : MethodName)) (z := (⟨"com/example/tidematch/tidematch/greedy/VertexTable", "countBelow", "(J)I"⟩ : MethodName)) hown (mvT hZ (hw _ (List.mem_of_getElem? (i := 27) rfl))) (mvT hZ (hw _ (List.mem_of_getElem? (i := 28) rfl))) (notFace_of_selects (args := #[]) (mvT hZ (hw _ (List.mem_of_getElem? (i := 30) rfl)))) (mvT hZ (hw _ (List.mem_of_getElem? (i := 30) rfl))) (mvT hZ (hw _ (List.mem_of_getElem? (i := 29) rfl))) (by decide) (backOf (W := 0) (rm6 l Z a0 hw [] b1 lim sl7 mC mv7 NC h21 n0 z21 fn21_0) hZ (hw _ (List.mem_of_getElem? (i := 31) rfl)) (hw _ (List.mem_of_getElem? (i := 3) rfl)) (by decide) (by decide)) q32a q32c (g := (mkF m 225 #[.val (.int p1), .val (.int p2), .val (.int p3), .val (.int p4), .val (.long q5), .second, .val (.int kp), .val (.int (((p4.toUInt32 >>> ((1 : Int32) &&& 31).toUInt32).toInt32) &&& (3 : Int32))), .val (.int (p1 &&& (2147483647 : Int32))), .val (.int (p2 &&& (2147483647 : Int32))), .val (.int (p3 &&& (2147483647 : Int32))), .val (.int hA), .val (.int hB), .val (.int hC), .val (.ref b1), .val (.int pv), .val (.long lim), .second, .val (.int (((Int32.ofNat (own_b hA (p1 &&& (2147483647 : Int32)) lim)) + (Int32.ofNat (own_b hB (p2 &&& (2147483647 : Int32)) lim))) + (Int32.ofNat (own_b hC (p3 &&& (2147483647 : Int32)) lim))))] [(.long lim), (.ref b1)])) rfl (by rw [hml]; rfl) (Steps.refl _) (argsL := [(.long lim)]) (rest := []) (lenOf pd_6 rfl) rfl (by show 2 * 0 + _ ≤ _; exact Nat.le_of_eq rfl) (hb hby at_225) (fun _ _ => ⟨rfl, e30, (by decide : 3 + 0 ≤ _), (by decide : 35 + 0 ≤ _)⟩)
  dsimp only [Pt.U, Pt.locs, Pt.cells, Pt.slots] at X32 l32 y32 z32 st32 hQ32
  subst l32 y32 z32
  obtain ⟨rfl, N32q, e32⟩ := hQ32
  have N33 := Fr.app N31 N32q
  refine Go.via (S' := T32.setTop (mkF m 228 #[.val (.int p1), .val (.int p2), .val (.int p3), .val (.int p4), .val (.long q5), .second, .val (.int kp), .val (.int (((p4.toUInt32 >>> ((1 : Int32) &&& 31).toUInt32).toInt32) &&& (3 : Int32))), .val (.int (p1 &&& (2147483647 : Int32))), .val (.int (p2 &&& (2147483647 : Int32))), .val (.int (p3 &&& (2147483647 : Int32))), .val (.int hA), .val (.int hB), .val (.int hC), .val (.ref b1), .val (.int pv), .val (.long lim), .second, .val (.int (((Int32.ofNat (own_b hA (p1 &&& (2147483647 : Int32)) lim)) + (Int32.ofNat (own_b hB (p2 &&& (2147483647 : Int32)) lim))) + (Int32.ofNat (own_b hC (p3 &&& (2147483647 : Int32)) lim))))] [(.int (Int32.ofNat (NC lim)))])) (fun _ k => st32.trans k) ?_
  refine Go.via (S' := T32.setTop (mkF m 230 #[.val (.int p1), .val (.int p2), .val (.int p3), .val (.int p4), .val (.long q5), .second, .val (.int kp), .val (.int (((p4.toUInt32 >>> ((1 : Int32) &&& 31).toUInt32).toInt32) &&& (3 : Int32))), .val (.int (p1 &&& (2147483647 : Int32))), .val (.int (p2 &&& (2147483647 : Int32))), .val (.int (p3 &&& (2147483647 : Int32))), .val (.int hA), .val (.int hB), .val (.int hC), .val (.ref b1), .val (.int pv), .val (.long lim), .second, .val (.int (((Int32.ofNat (own_b hA (p1 &&& (2147483647 : Int32)) lim)) + (Int32.ofNat (own_b hB (p2 &&& (2147483647 : Int32)) lim))) + (Int32.ofNat (own_b hC (p3 &&& (2147483647 : Int32)) lim))))] [(.int (((Int32.ofNat (own_b hA (p1 &&& (2147483647 : Int32)) lim)) + (Int32.ofNat (own_b hB (p2 &&& (2147483647 : Int32)) lim))) + (Int32.ofNat (own_b hC (p3 &&& (2147483647 : Int32)) lim)))), (.int (Int32.ofNat (NC lim)))])) (fun _ k => XS.iload X32.here hx rfl (hb hby at_228) rfl k) ?_
  refine Go.via (S' := T32.setTop (mkF m 233 #[.val (.int p1), .val (.int p2), .val (.int p3), .val (.int p4), .val (.long q5), .second, .val (.int kp), .val (.int (((p4.toUInt32 >>> ((1 : Int32) &&& 31).toUInt32).toInt32) &&& (3 : Int32))), .val (.int (p1 &&& (2147483647 : Int32))), .val (.int (p2 &&& (2147483647 : Int32))), .val (.int (p3 &&& (2147483647 : Int32))), .val (.int hA), .val (.int hB), .val (.int hC), .val (.ref b1), .val (.int pv), .val (.long lim), .second, .val (.int (((Int32.ofNat (own_b hA (p1 &&& (2147483647 : Int32)) lim)) + (Int32.ofNat (own_b hB (p2 &&& (2147483647 : Int32)) lim))) + (Int32.ofNat (own_b hC (p3 &&& (2147483647 : Int32)) lim))))] [])) (fun _ k => XS.icmpNo X32.here hx rfl (hb hby at_230) rfl (teq (by rw [own_add, own_add, hNC])).2 k) ?_
  refine Go.via (S' := T32.setTop (mkF m 234 #[.val (.int p1), .val (.int p2), .val (.int p3), .val (.int p4), .val (.long q5), .second, .val (.int kp), .val (.int (((p4.toUInt32 >>> ((1 : Int32) &&& 31).toUInt32).toInt32) &&& (3 : Int32))), .val (.int (p1 &&& (2147483647 : Int32))), .val (.int (p2 &&& (2147483647 : Int32))), .val (.int (p3 &&& (2147483647 : Int32))), .val (.int hA), .val (.int hB), .val (.int hC), .val (.ref b1), .val (.int pv), .val (.long lim), .second, .val (.int (((Int32.ofNat (own_b hA (p1 &&& (2147483647 : Int32)) lim)) + (Int32.ofNat (own_b hB (p2 &&& (2147483647 : Int32)) lim))) + (Int32.ofNat (own_b hC (p3 &&& (2147483647 : Int32)) lim))))] [(.int (1 : Int32))])) (fun _ k => XS.iconst X32.here hx rfl (hb hby at_233) k) ?_
  refine Go.via (S' := T32.setTop (mkF m 238 #[.val (.int p1), .val (.int p2), .val (.int p3), .val (.int p4), .val (.long q5), .second, .val (.int kp), .val (.int (((p4.toUInt32 >>> ((1 : Int32) &&& 31).toUInt32).toInt32) &&& (3 : Int32))), .val (.int (p1 &&& (2147483647 : Int32))), .val (.int (p2 &&& (2147483647 : Int32))), .val (.int (p3 &&& (2147483647 : Int32))), .val (.int hA), .val (.int hB), .val (.int hC), .val (.ref b1), .val (.int pv), .val (.long lim), .second, .val (.int (((Int32.ofNat (own_b hA (p1 &&& (2147483647 : Int32)) lim)) + (Int32.ofNat (own_b hB (p2 &&& (2147483647 : Int32)) lim))) + (Int32.ofNat (own_b hC (p3 &&& (2147483647 : Int32)) lim))))] [(.int (1 : Int32))])) (fun _ k => XS.goto X32.here hx rfl (pc0 := 234) (pc' := 238) rfl (hb hby at_234) (by decide) (by decide) k) ?_
  exact Go.retB X32 hx (BodyLoose.notSynchronized Bd) Bd.returns (hb hby at_238) rfl (by rw [e32]; exact ⟨rfl, N33⟩) (by decide) (by decide)
set_option maxRecDepth 65536 in
set_option maxHeartbeats 40000000 in
theorem comes_1 {Post : Tables → Env → Array Value → State → Outcome → State → Prop} (hpost : ∀ tb e args s v u, (limb_1_1.after args s (.returned v) u = true ∧ limb_1_2.after args s (.returned v) u = true ∧ True) → FrameEnd s (.returned v) u (Jvm.fieldLocs frame_1_writes args s ++ Jvm.arrayLocs frame_1_arrays args s ++ Jvm.staticLocs frame_1_statics s) 16 192 → Post tb e args s (.returned v) u) :
    ArmFor flags0 classFile x code maxLocals ret World_1 tables_1 room_1 Calls_1 rest_1 Pre_1 Post := by
  intro l hfl _ _ p e ha hc hk s m args below hf hA hF happ hP
  obtain ⟨hcalls, hrest, hpre⟩ := hP
  obtain ⟨-, -, -, hnamed, -, -, -, hat⟩ := (Spec.applies_iff hf).mp happ
  obtain ⟨hg, hn⟩ := and_e (Cond.before_iff.mp (show (Jvm.Cond.and given_1 narrow_1).before args s = true from hpre))
  obtain ⟨gg0, hg0⟩ := and_e hg
  obtain ⟨gg1, hg1⟩ := and_e hg0
  obtain ⟨gg2, hg2⟩ := and_e hg1
  obtain ⟨gg3, hg3⟩ := and_e hg2
  obtain ⟨gg4, hg4⟩ := and_e hg3
  obtain ⟨w0, w1, w2, w3, w4, rfl⟩ : ∃ w0 w1 w2 w3 w4 : Value, args = #[w0, w1, w2, w3, w4] := by
    have hs : args.size = 5 := by simpa [Cond.value, given_1] using gg0
    obtain ⟨L⟩ := args
    match L, hs with
    | [w0, w1, w2, w3, w4], _ => exact ⟨w0, w1, w2, w3, w4, rfl⟩
  have hw := fun d (hd : d ∈ tables_1) => atoms_spec (ws := Jvm.Cond.code x code maxLocals ret :: tables_1) hat d (List.mem_cons_of_mem _ hd)
  have hfit : Fit s := fun {y c} hc i hi => by
    obtain ⟨ha, rfl⟩ := Array.getElem?_eq_some_iff.mp hc
    have q := List.all_eq_true.mp ((Array.all_eq_true_iff_forall_mem.mp hF) _ (Array.getElem_mem ha)) i (List.mem_range.mpr hi)
    simpa [Array.getElem?_eq_getElem hi] using q
  obtain ⟨i0, ei0⟩ := is_v gg1
  obtain rfl : w0 = (.int i0) := Option.some.inj ei0
  obtain ⟨i1, ei1⟩ := is_v gg2
  obtain rfl : w1 = (.int i1) := Option.some.inj ei1
  obtain ⟨i2, ei2⟩ := is_v gg3
  obtain rfl : w2 = (.int i2) := Option.some.inj ei2
  obtain ⟨i3, ei3⟩ := is_v gg4
  obtain rfl : w3 = (.int i3) := Option.some.inj ei3
  obtain ⟨i4, ei4⟩ := isL_v hg4
  obtain rfl : w4 = (.long i4) := Option.some.inj ei4
  obtain ⟨n, o, h1, h2, h3, _, L, rfl, ⟨rfl, N⟩, hq⟩ := rm0 l s _ hw tables_1 i0 i1 i2 i3 i4 s.heap s.heap.size (Nat.le_refl _) p e ha hc hk s m _ below hf ((Spec.applies_iff_loose hf).mp happ).1 ⟨rfl, State.Warmed39.refl s, rfl⟩ trivial
  refine ⟨n, _, h1, h2, h3, hpost _ _ _ _ _ _ ⟨Cond.after_iff.mpr rfl, Cond.after_iff.mpr (eq_i res_at (Term.int_eval (1)) rfl), trivial⟩ ⟨hq.1, hq.2.1, (hq.2.2.sift fun y hy => Or.inr (N y hy)).mono (by decide) (by decide)⟩⟩
theorem main_1_1 : Claimed_1_1 := comes_1 fun _ _ _ _ _ _ h hF => ⟨h.1, hF⟩
theorem main_1_2 : Claimed_1_2 := comes_1 fun _ _ _ _ _ _ h hF => ⟨h.2.1, hF⟩
end Jvm.Pilot.@@N@@
namespace Jvm.Pilot.@@N@@
open Jvm Jvm.ClassFile Sem Op Lib Jvm.Free Jvm.Stand Jvm.Pilot.@@N@@.Jvm.D
/-! MADE BY PROGRAM (witnessworld.py) out of the Statement's table words and the real class files: 15 classes; the members and pool entries that the words name. The judged class is class 1, her method 1. -/
namespace start1
open Jvm.ClassFile
def u (s : String) : CpInfo := .utf8 (stringToUtf16 s)
/-- a pool by its gaps: so many unusable entries, then the entry; so many at the end -/
def gap : Nat → List CpInfo → List CpInfo
  | 0, r => r
  | n + 1, r => .unusable :: gap n r
def poolList (es : List (Nat × CpInfo)) (last : Nat) : List CpInfo := es.foldr (fun e r => gap e.1 (e.2 :: r)) (gap last [])
def pool (es : List (Nat × CpInfo)) (last : Nat) : Array CpInfo := ⟨poolList es last⟩
def fileOf (pool : Array CpInfo) (this : Nat) (attrs : Array Attribute := #[]) (ms : Array MethodInfo := #[]) (fl : Nat := 33) (sup : Nat := 0) (ifs : Array Nat := #[]) (fds : Array FieldInfo := #[]) : ClassFile where
  minorVersion := 0
  majorVersion := 65
  constantPool := pool
  accessFlags := fl
  thisClass := this
  superClass := sup
  interfaces := ifs
  fields := fds
  methods := ms
  attributes := attrs
def plain (name : String) (sup : Option ClassId) : Class where
  name := name
  kind := .ordinary
  loader := none
  accessFlags := 33
  super := sup
  interfaces := #[]
  cf := none
  fields := #[]
  methods := #[]
  instanceTypes := #[]
  staticTypes := #[]
  resolved := #[]
  callSites := []
  init := .initialized
  statics := none
  mirror := none

def pool0 : Array CpInfo := pool [(5, u "<init>"), (0, u "()V"), (1, .class_ 10), (1, u "java/lang/Object")] 113

def k0c0 : Code := { maxStack := 0, maxLocals := 1, code := object_method_1_code, exceptionTable := #[], attributes := #[] }
def k0m0 : Method := { name := "<init>", desc := "()V", sig := { parameters := [], returnType := none }, accessFlags := 1, code := some k0c0 }
/-- java/lang/Object -/
def k0 : Class := { plain "java/lang/Object" none with
  accessFlags := 33
  interfaces := #[]
  cf := some (fileOf pool0 8 #[] #[{ accessFlags := 1, nameIndex := 5, descriptorIndex := 6, attributes := #[] }] 33 0 #[] #[])
  fields := #[]
  methods := #[k0m0]
  instanceTypes := #[]
  staticTypes := #[]
  resolved := Array.replicate 124 none
  statics := none }

def pool1 : Array CpInfo := pool [(2, .class_ 4), (1, u "java/lang/Object"), (0, u "<init>"), (0, u "()V"), (0, .integer 2147483647), (0, .class_ 9), (0, u "com/example/tidematch/tidematch/greedy/VertexTable"), (0, .methodref 8 11), (0, .nameAndType 5 12), (0, u "(Z)V"), (0, .methodref 8 14), (0, .nameAndType 15 16), (0, u "insert"), (0, u "(I)I"), (0, .long 3), (1, .methodref 20 21), (0, .class_ 22), (0, .nameAndType 23 24), (0, u "com/example/tidematch/tidematch/greedy/VertexTableCountBelowPinLaw"), (0, u "below"), (0, u "(ZIJ)I"), (0, .methodref 8 26), (0, .nameAndType 27 28), (0, u "countBelow"), (0, u "(J)I"), (2, u "law"), (0, u "(IIIIJ)Z")] 3

def k1m0 : Method := { name := "<init>", desc := "()V", sig := { parameters := [], returnType := none }, accessFlags := 1, code := none }
def k1c1 : Code := { maxStack := 6, maxLocals := 19, code := code, exceptionTable := #[], attributes := #[] }
def k1m1 : Method := { name := "law", desc := "(IIIIJ)Z", sig := { parameters := [.int, .int, .int, .int, .long], returnType := some .boolean }, accessFlags := 9, code := some k1c1 }
def k1c2 : Code := { maxStack := 4, maxLocals := 4, code := method_3_code, exceptionTable := #[], attributes := #[] }
def k1m2 : Method := { name := "below", desc := "(ZIJ)I", sig := { parameters := [.boolean, .int, .long], returnType := some .int }, accessFlags := 10, code := some k1c2 }
/-- com/example/tidematch/tidematch/greedy/VertexTableCountBelowPinLaw -/
def k1 : Class := { plain "com/example/tidematch/tidematch/greedy/VertexTableCountBelowPinLaw" (some 0) with
  accessFlags := 49
  interfaces := #[]
  cf := some (fileOf pool1 20 #[] #[{ accessFlags := 1, nameIndex := 5, descriptorIndex := 6, attributes := #[] }, { accessFlags := 9, nameIndex := 31, descriptorIndex := 32, attributes := #[] }, { accessFlags := 10, nameIndex := 23, descriptorIndex := 24, attributes := #[] }] 49 2 #[] #[])
  fields := #[]
  methods := #[k1m0, k1m1, k1m2]
  instanceTypes := #[]
  staticTypes := #[]
  resolved := Array.replicate 36 none
  statics := none }

def pool2 : Array CpInfo := pool [(1, .methodref 2 3), (0, .class_ 4), (0, .nameAndType 5 6), (0, u "java/lang/Object"), (0, u "<init>"), (0, u "()V"), (0, .class_ 8), (0, u "com/example/tidematch/tidematch/greedy/VertexTable"), (0, .methodref 7 10), (0, .nameAndType 11 12), (0, u "freeSlots"), (0, u "(I)[I"), (0, .fieldref 7 14), (0, .nameAndType 15 16), (0, u "mSlots"), (0, u "[I"), (0, .fieldref 7 18), (0, .nameAndType 19 16), (0, u "mValues"), (0, .methodref 7 21), (0, .nameAndType 22 23), (0, u "home"), (0, u "(I)I"), (0, .methodref 7 25), (0, .nameAndType 26 27), (0, u "isFull"), (0, u "()Z"), (3, .fieldref 7 32), (0, .nameAndType 33 34), (0, u "mSize"), (0, u "I"), (0, .methodref 7 36), (0, .nameAndType 37 23), (0, u "place"), (8, .integer 2654435769), (0, .methodref 48 49), (0, .class_ 50), (0, .nameAndType 51 23), (0, u "java/lang/Integer"), (0, u "numberOfLeadingZeros"), (17, .methodref 70 71), (0, .class_ 72), (0, .nameAndType 73 74), (0, u "java/util/Arrays"), (0, u "fill"), (0, u "([II)V"), (0, u "FREE"), (2, u "INITIAL_CAPACITY"), (1, u "MAX_CAPACITY"), (0, u "SPREAD"), (0, u "(Z)V"), (5, u "insert"), (2, u "countBelow"), (0, u "(J)I")] 28

def k2c0 : Code := { maxStack := 2, maxLocals := 2, code := prog_26_method_1_code, exceptionTable := #[], attributes := #[] }
def k2m0 : Method := { name := "<init>", desc := "(Z)V", sig := { parameters := [.boolean], returnType := none }, accessFlags := 0, code := some k2c0 }
def k2c1 : Code := { maxStack := 3, maxLocals := 2, code := prog_26_method_3_code, exceptionTable := #[], attributes := #[] }
def k2m1 : Method := { name := "insert", desc := "(I)I", sig := { parameters := [.int], returnType := some .int }, accessFlags := 0, code := some k2c1 }
def k2c2 : Code := { maxStack := 3, maxLocals := 1, code := prog_26_method_4_code, exceptionTable := #[], attributes := #[] }
def k2m2 : Method := { name := "isFull", desc := "()Z", sig := { parameters := [], returnType := some .boolean }, accessFlags := 0, code := some k2c2 }
def k2c3 : Code := { maxStack := 4, maxLocals := 8, code := prog_26_method_6_code, exceptionTable := #[], attributes := #[] }
def k2m3 : Method := { name := "countBelow", desc := "(J)I", sig := { parameters := [.long], returnType := some .int }, accessFlags := 0, code := some k2c3 }
def k2c4 : Code := { maxStack := 3, maxLocals := 2, code := prog_26_method_11_code, exceptionTable := #[], attributes := #[] }
def k2m4 : Method := { name := "home", desc := "(I)I", sig := { parameters := [.int], returnType := some .int }, accessFlags := 2, code := some k2c4 }
def k2c5 : Code := { maxStack := 3, maxLocals := 4, code := prog_26_method_12_code, exceptionTable := #[], attributes := #[] }
def k2m5 : Method := { name := "place", desc := "(I)I", sig := { parameters := [.int], returnType := some .int }, accessFlags := 2, code := some k2c5 }
def k2c6 : Code := { maxStack := 2, maxLocals := 2, code := prog_26_method_15_code, exceptionTable := #[], attributes := #[] }
def k2m6 : Method := { name := "freeSlots", desc := "(I)[I", sig := { parameters := [.int], returnType := some (.array .int) }, accessFlags := 10, code := some k2c6 }
/-- com/example/tidematch/tidematch/greedy/VertexTable -/
def k2 : Class := { plain "com/example/tidematch/tidematch/greedy/VertexTable" (some 0) with
  accessFlags := 48
  interfaces := #[]
  cf := some (fileOf pool2 7 #[] #[{ accessFlags := 0, nameIndex := 5, descriptorIndex := 82, attributes := #[] }, { accessFlags := 0, nameIndex := 88, descriptorIndex := 23, attributes := #[] }, { accessFlags := 0, nameIndex := 26, descriptorIndex := 27, attributes := #[] }, { accessFlags := 0, nameIndex := 91, descriptorIndex := 92, attributes := #[] }, { accessFlags := 2, nameIndex := 22, descriptorIndex := 23, attributes := #[] }, { accessFlags := 2, nameIndex := 37, descriptorIndex := 23, attributes := #[] }, { accessFlags := 10, nameIndex := 11, descriptorIndex := 12, attributes := #[] }] 48 2 #[] #[{ accessFlags := 26, nameIndex := 75, descriptorIndex := 34, attributes := #[] }, { accessFlags := 26, nameIndex := 78, descriptorIndex := 34, attributes := #[] }, { accessFlags := 26, nameIndex := 80, descriptorIndex := 34, attributes := #[] }, { accessFlags := 26, nameIndex := 81, descriptorIndex := 34, attributes := #[] }, { accessFlags := 2, nameIndex := 15, descriptorIndex := 16, attributes := #[] }, { accessFlags := 2, nameIndex := 19, descriptorIndex := 16, attributes := #[] }, { accessFlags := 2, nameIndex := 33, descriptorIndex := 34, attributes := #[] }])
  fields := #[{ name := "FREE", type := .int, accessFlags := 26, slot := 0, constantValue := 0 }, { name := "INITIAL_CAPACITY", type := .int, accessFlags := 26, slot := 1, constantValue := 0 }, { name := "MAX_CAPACITY", type := .int, accessFlags := 26, slot := 2, constantValue := 0 }, { name := "SPREAD", type := .int, accessFlags := 26, slot := 3, constantValue := 0 }, { name := "mSlots", type := (.array .int), accessFlags := 2, slot := 0, constantValue := 0 }, { name := "mValues", type := (.array .int), accessFlags := 2, slot := 1, constantValue := 0 }, { name := "mSize", type := .int, accessFlags := 2, slot := 2, constantValue := 0 }]
  methods := #[k2m0, k2m1, k2m2, k2m3, k2m4, k2m5, k2m6]
  instanceTypes := #[(.array .int), (.array .int), .int]
  staticTypes := #[.int, .int, .int, .int]
  resolved := Array.replicate 121 none
  statics := none }

def pool3 : Array CpInfo := pool [(2, .class_ 4), (1, u "java/lang/Object"), (0, u "<init>"), (0, u "()V"), (7, .class_ 16), (1, u "java/util/Arrays"), (57, .class_ 76), (1, u "java/util/Arrays$NaturalOrder"), (36, .class_ 115), (1, u "java/util/Arrays$LegacyMergeSort"), (1, u "Z"), (257, .class_ 376), (0, u "java/util/Arrays$ArrayList"), (68, u "$assertionsDisabled"), (269, u "MIN_ARRAY_SORT_GRAN"), (0, u "I"), (2, u "INSERTIONSORT_THRESHOLD"), (120, u "fill"), (4, u "([II)V"), (129, .class_ 976), (0, u "java/util/Arrays$ArrayItr")] 52

def k3m0 : Method := { name := "<init>", desc := "()V", sig := { parameters := [], returnType := none }, accessFlags := 2, code := none }
def k3c1 : Code := { maxStack := 3, maxLocals := 4, code := jdk_65_method_103_code, exceptionTable := #[], attributes := #[] }
def k3m1 : Method := { name := "fill", desc := "([II)V", sig := { parameters := [(.array .int), .int], returnType := none }, accessFlags := 9, code := some k3c1 }
/-- java/util/Arrays -/
def k3 : Class := { plain "java/util/Arrays" (some 0) with
  accessFlags := 49
  interfaces := #[]
  cf := some (fileOf pool3 14 #[.nestMembers #[975, 375, 113, 74]] #[{ accessFlags := 2, nameIndex := 5, descriptorIndex := 6, attributes := #[] }, { accessFlags := 9, nameIndex := 840, descriptorIndex := 845, attributes := #[] }] 49 2 #[] #[{ accessFlags := 26, nameIndex := 715, descriptorIndex := 716, attributes := #[] }, { accessFlags := 26, nameIndex := 719, descriptorIndex := 716, attributes := #[] }, { accessFlags := 4120, nameIndex := 445, descriptorIndex := 117, attributes := #[] }])
  fields := #[{ name := "MIN_ARRAY_SORT_GRAN", type := .int, accessFlags := 26, slot := 0, constantValue := 0 }, { name := "INSERTIONSORT_THRESHOLD", type := .int, accessFlags := 26, slot := 1, constantValue := 0 }, { name := "$assertionsDisabled", type := .boolean, accessFlags := 4120, slot := 2, constantValue := 0 }]
  methods := #[k3m0, k3m1]
  instanceTypes := #[]
  staticTypes := #[.int, .int, .boolean]
  resolved := Array.replicate 1029 none
  statics := none }

def pool4 : Array CpInfo := pool [(1, .class_ 2), (0, u "java/io/Serializable"), (0, .class_ 4), (0, u "java/lang/Object")] 2

/-- java/io/Serializable -/
def k4 : Class := { plain "java/io/Serializable" (some 0) with
  accessFlags := 1537
  interfaces := #[]
  cf := some (fileOf pool4 1 #[] #[] 1537 3 #[] #[])
  fields := #[]
  methods := #[]
  instanceTypes := #[]
  staticTypes := #[]
  resolved := Array.replicate 7 none
  statics := none }

def pool5 : Array CpInfo := pool [(2, .class_ 4), (1, u "java/lang/Object"), (0, u "<init>"), (0, u "()V"), (1, .class_ 10), (1, u "java/lang/Number"), (2, .class_ 14), (0, u "java/io/Serializable"), (0, u "serialVersionUID"), (0, u "J")] 20

def k5m0 : Method := { name := "<init>", desc := "()V", sig := { parameters := [], returnType := none }, accessFlags := 1, code := none }
/-- java/lang/Number -/
def k5 : Class := { plain "java/lang/Number" (some 0) with
  accessFlags := 1057
  interfaces := #[4]
  cf := some (fileOf pool5 8 #[] #[{ accessFlags := 1, nameIndex := 5, descriptorIndex := 6, attributes := #[] }] 1057 2 #[13] #[{ accessFlags := 26, nameIndex := 15, descriptorIndex := 16, attributes := #[] }])
  fields := #[{ name := "serialVersionUID", type := .long, accessFlags := 26, slot := 0, constantValue := 0 }]
  methods := #[k5m0]
  instanceTypes := #[]
  staticTypes := #[.long]
  resolved := Array.replicate 37 none
  statics := none }

def pool6 : Array CpInfo := pool [(1, .class_ 2), (0, u "java/lang/Comparable"), (0, .class_ 4), (0, u "java/lang/Object")] 7

/-- java/lang/Comparable -/
def k6 : Class := { plain "java/lang/Comparable" (some 0) with
  accessFlags := 1537
  interfaces := #[]
  cf := some (fileOf pool6 1 #[] #[] 1537 3 #[] #[])
  fields := #[]
  methods := #[]
  instanceTypes := #[]
  staticTypes := #[]
  resolved := Array.replicate 12 none
  statics := none }

def pool7 : Array CpInfo := pool [(1, .class_ 2), (0, u "java/lang/constant/Constable"), (0, .class_ 4), (0, u "java/lang/Object")] 6

/-- java/lang/constant/Constable -/
def k7 : Class := { plain "java/lang/constant/Constable" (some 0) with
  accessFlags := 1537
  interfaces := #[]
  cf := some (fileOf pool7 1 #[] #[] 1537 3 #[] #[])
  fields := #[]
  methods := #[]
  instanceTypes := #[]
  staticTypes := #[]
  resolved := Array.replicate 11 none
  statics := none }

def pool8 : Array CpInfo := pool [(1, .class_ 2), (0, u "java/lang/constant/ConstantDesc"), (0, .class_ 4), (0, u "java/lang/Object")] 32

/-- java/lang/constant/ConstantDesc -/
def k8 : Class := { plain "java/lang/constant/ConstantDesc" (some 0) with
  accessFlags := 1537
  interfaces := #[]
  cf := some (fileOf pool8 1 #[] #[] 1537 3 #[] #[])
  fields := #[]
  methods := #[]
  instanceTypes := #[]
  staticTypes := #[]
  resolved := Array.replicate 37 none
  statics := none }

def pool9 : Array CpInfo := pool [(1, .class_ 2), (0, u "java/lang/Integer"), (16, u "digits"), (0, u "[C"), (32, u "numberOfLeadingZeros"), (0, u "(I)I"), (30, u "DigitOnes"), (0, u "[B"), (2, u "DigitTens"), (99, .class_ 190), (0, u "java/lang/Integer$IntegerCache"), (3, u "I"), (8, .class_ 204), (0, u "java/lang/Number"), (2, u "value"), (56, .integer 65536), (37, u "TYPE"), (0, u "Ljava/lang/Class;"), (0, .class_ 305), (0, u "java/lang/Comparable"), (0, .class_ 307), (0, u "java/lang/constant/Constable"), (0, .class_ 309), (0, u "java/lang/constant/ConstantDesc"), (0, u "MIN_VALUE"), (1, u "MAX_VALUE"), (3, u "SIZE"), (1, u "BYTES"), (1, u "serialVersionUID"), (0, u "J")] 131

def k9c0 : Code := { maxStack := 3, maxLocals := 2, code := jdk_33_method_47_code, exceptionTable := #[], attributes := #[] }
def k9m0 : Method := { name := "numberOfLeadingZeros", desc := "(I)I", sig := { parameters := [.int], returnType := some .int }, accessFlags := 9, code := some k9c0 }
/-- java/lang/Integer -/
def k9 : Class := { plain "java/lang/Integer" (some 5) with
  accessFlags := 49
  interfaces := #[6, 7, 8]
  cf := some (fileOf pool9 1 #[.nestMembers #[189]] #[{ accessFlags := 9, nameIndex := 53, descriptorIndex := 54, attributes := #[] }] 49 203 #[304, 306, 308] #[{ accessFlags := 25, nameIndex := 310, descriptorIndex := 194, attributes := #[] }, { accessFlags := 25, nameIndex := 312, descriptorIndex := 194, attributes := #[] }, { accessFlags := 25, nameIndex := 302, descriptorIndex := 303, attributes := #[] }, { accessFlags := 24, nameIndex := 19, descriptorIndex := 20, attributes := #[] }, { accessFlags := 24, nameIndex := 89, descriptorIndex := 86, attributes := #[] }, { accessFlags := 24, nameIndex := 85, descriptorIndex := 86, attributes := #[] }, { accessFlags := 18, nameIndex := 207, descriptorIndex := 194, attributes := #[] }, { accessFlags := 25, nameIndex := 316, descriptorIndex := 194, attributes := #[] }, { accessFlags := 25, nameIndex := 318, descriptorIndex := 194, attributes := #[] }, { accessFlags := 26, nameIndex := 320, descriptorIndex := 321, attributes := #[] }])
  fields := #[{ name := "MIN_VALUE", type := .int, accessFlags := 25, slot := 0, constantValue := 0 }, { name := "MAX_VALUE", type := .int, accessFlags := 25, slot := 1, constantValue := 0 }, { name := "TYPE", type := (.object "java/lang/Class"), accessFlags := 25, slot := 2, constantValue := 0 }, { name := "digits", type := (.array .char), accessFlags := 24, slot := 3, constantValue := 0 }, { name := "DigitTens", type := (.array .byte), accessFlags := 24, slot := 4, constantValue := 0 }, { name := "DigitOnes", type := (.array .byte), accessFlags := 24, slot := 5, constantValue := 0 }, { name := "value", type := .int, accessFlags := 18, slot := 0, constantValue := 0 }, { name := "SIZE", type := .int, accessFlags := 25, slot := 6, constantValue := 0 }, { name := "BYTES", type := .int, accessFlags := 25, slot := 7, constantValue := 0 }, { name := "serialVersionUID", type := .long, accessFlags := 26, slot := 8, constantValue := 0 }]
  methods := #[k9m0]
  instanceTypes := #[.int]
  staticTypes := #[.int, .int, (.object "java/lang/Class"), (.array .char), (.array .byte), (.array .byte), .int, .int, .long]
  resolved := Array.replicate 453 none
  statics := none }

def pool10 : Array CpInfo := pool [(1, u "java/lang/Cloneable"), (0, .class_ 1), (0, u "java/lang/Object"), (0, .class_ 3)] 3

/-- java/lang/Cloneable -/
def k10 : Class := { plain "java/lang/Cloneable" (some 0) with
  accessFlags := 1537
  interfaces := #[]
  cf := some (fileOf pool10 2 #[] #[] 1537 4 #[] #[])
  fields := #[]
  methods := #[]
  instanceTypes := #[]
  staticTypes := #[]
  resolved := Array.replicate 8 none
  statics := none }

/-- the primitive byte -/
def k11 : Class := { plain "byte" none with kind := .primitive 'B', accessFlags := 0x411 }
/-- [B -/
def k12 : Class := { plain "[B" (some 0) with kind := .array 11 .byte, interfaces := #[10, 4], accessFlags := 1041 }

/-- the primitive int -/
def k13 : Class := { plain "int" none with kind := .primitive 'I', accessFlags := 0x411 }
/-- [I -/
def k14 : Class := { plain "[I" (some 0) with kind := .array 13 .int, interfaces := #[10, 4], accessFlags := 1041 }

def heap : Heap := #[]
def classes : Array Class := #[k0, k1, k2, k3, k4, k5, k6, k7, k8, k9, k10, k11, k12, k13, k14]
def interned : List (Array UInt16 × Addr) := []
def slotsUsed : Nat := 0
def theMethod : MethodId := ⟨1, 1⟩
def args0 : Array Value := #[.int 5, .int 6, .int 7, .int 6, .long 7]
def aboutOver (below : List Frame) : State where
  vm := { classes := classes, interned := interned.toArray }
  heap := heap
  slotsUsed := slotsUsed
  threads := #[{ frames := .invoking theMethod args0 :: below }]
def below0 : List Frame := [.native { method := ⟨0, 0⟩, args := #[] }]
def about1 : State := aboutOver below0
def p0 : Program := .bare "" "" ""
def e0 : Env := launch0.env 0 0 0
theorem w_frames : about1.frames = Frame.invoking theMethod args0 :: below0 := rfl
set_option maxRecDepth 65536 in
theorem w_args : argsFit about1.vm theMethod args0 = true := by decide +kernel
set_option maxRecDepth 65536 in
theorem w_heap : heapFits about1 = true := by decide +kernel
set_option maxRecDepth 65536 in
theorem w_runnable : about1.curStatus? = some .runnable := by decide +kernel
set_option maxRecDepth 65536 in
theorem w_alone : about1.alone = true := by decide +kernel
set_option maxRecDepth 65536 in
theorem w_named : about1.methodNamed? x = some theMethod := by decide +kernel
set_option maxRecDepth 65536 in
theorem w_hears : about1.hears theMethod below0 = true := by decide +kernel
set_option maxRecDepth 65536 in
theorem w_ripe : about1.ripe theMethod args0 below0 = true := by decide +kernel
theorem w_running : about1.status = .running := rfl
set_option maxRecDepth 65536 in
theorem w_room : about1.hasRoom e0.platform room_1 = true :=
  launch0.hasRoom_least _ room_1 (by decide +kernel) (by decide +kernel) (by decide +kernel) (by decide +kernel) (by decide +kernel) (by decide +kernel)
theorem allAtoms_all (ts : List Jvm.Cond) (a : Array Jvm.Value) (st : Jvm.State) : (allAtoms ts).before a st = ts.all (fun c => c.before a st) := by
  induction ts with
  | nil => rfl
  | cons c t ih =>
    show (Jvm.Cond.and c (allAtoms t)).before a st = _
    rw [Jvm.Cond.before_and, ih, List.all_cons]
def words1 : List Jvm.Cond := Jvm.Cond.code x code maxLocals ret :: tables_1
/-- a 'code' word, met by the world's own term for the bytes: nothing is compared byte by byte -/
theorem code_word {y : MethodName} {bytes : ByteArray} {mx : Nat} {rt : Option FieldType} {a : Array Value} {s : State} {m : MethodId} {meth : Method} {c : Code} (h1 : s.methodNamed? y = some m) (h2 : s.vm.method? m = some meth) (h3 : meth.code = some c) (h4 : c.code = bytes)
    (h5 : (c.maxLocals == mx && c.exceptionTable.isEmpty && decide (c.maxStack ≤ mostOperands) && decide (meth.sig.returnType = rt) && !meth.locks && decide (parseMethodDescriptor y.desc = some meth.sig)) = true) : (Jvm.Cond.code y bytes mx rt).before a s = true := by
  simp only [Bool.and_eq_true, beq_iff_eq, Bool.not_eq_true', decide_eq_true_eq] at h5
  obtain ⟨⟨⟨⟨⟨g1, g2⟩, g3⟩, g4⟩, g5⟩, g6⟩ := h5
  simp [Cond.before, Cond.holds, Cond.value, h1, h2, h3, h4, g1, g2, g3, g4, g5, g6]
def isCode : Jvm.Cond → Bool
  | .code _ _ _ _ => true
  | _ => false
theorem all_split {L : List Jvm.Cond} {P : Jvm.Cond → Bool} (h1 : L.all (fun c => isCode c || P c) = true) (h2 : ∀ c ∈ L.filter isCode, P c = true) : L.all P = true := by
  refine List.all_eq_true.mpr fun c hc => ?_
  have h := List.all_eq_true.mp h1 c hc
  rcases Bool.eq_false_or_eq_true (isCode c) with hi | hi
  · exact h2 c (List.mem_filter.mpr ⟨hc, hi⟩)
  · simpa [hi] using h
set_option maxRecDepth 65536 in
theorem w_c0 : (Jvm.Cond.code x code maxLocals ret).before args0 about1 = true := code_word (m := ⟨1, 1⟩) (meth := k1m1) (c := k1c1) (by decide +kernel) rfl rfl rfl (by decide +kernel)
set_option maxRecDepth 65536 in
theorem w_c1 : (Jvm.Cond.code ({ cls := "com/example/tidematch/tidematch/greedy/VertexTable", name := "<init>", desc := "(Z)V" } : Jvm.MethodName) prog_26_method_1_code (2 : Nat) (Option.none : Option Jvm.ClassFile.FieldType)).before args0 about1 = true := code_word (m := ⟨2, 0⟩) (meth := k2m0) (c := k2c0) (by decide +kernel) rfl rfl rfl (by decide +kernel)
set_option maxRecDepth 65536 in
theorem w_c2 : (Jvm.Cond.code ({ cls := "java/lang/Object", name := "<init>", desc := "()V" } : Jvm.MethodName) object_method_1_code (1 : Nat) (Option.none : Option Jvm.ClassFile.FieldType)).before args0 about1 = true := code_word (m := ⟨0, 0⟩) (meth := k0m0) (c := k0c0) (by decide +kernel) rfl rfl rfl (by decide +kernel)
set_option maxRecDepth 65536 in
theorem w_c3 : (Jvm.Cond.code ({ cls := "com/example/tidematch/tidematch/greedy/VertexTable", name := "freeSlots", desc := "(I)[I" } : Jvm.MethodName) prog_26_method_15_code (2 : Nat) (Option.some (Jvm.ClassFile.FieldType.array Jvm.ClassFile.FieldType.int))).before args0 about1 = true := code_word (m := ⟨2, 6⟩) (meth := k2m6) (c := k2c6) (by decide +kernel) rfl rfl rfl (by decide +kernel)
set_option maxRecDepth 65536 in
theorem w_c4 : (Jvm.Cond.code ({ cls := "java/util/Arrays", name := "fill", desc := "([II)V" } : Jvm.MethodName) jdk_65_method_103_code (4 : Nat) (Option.none : Option Jvm.ClassFile.FieldType)).before args0 about1 = true := code_word (m := ⟨3, 1⟩) (meth := k3m1) (c := k3c1) (by decide +kernel) rfl rfl rfl (by decide +kernel)
set_option maxRecDepth 65536 in
theorem w_c5 : (Jvm.Cond.code ({ cls := "com/example/tidematch/tidematch/greedy/VertexTableCountBelowPinLaw", name := "below", desc := "(ZIJ)I" } : Jvm.MethodName) method_3_code (4 : Nat) (Option.some Jvm.ClassFile.FieldType.int)).before args0 about1 = true := code_word (m := ⟨1, 2⟩) (meth := k1m2) (c := k1c2) (by decide +kernel) rfl rfl rfl (by decide +kernel)
set_option maxRecDepth 65536 in
theorem w_c6 : (Jvm.Cond.code ({ cls := "com/example/tidematch/tidematch/greedy/VertexTable", name := "countBelow", desc := "(J)I" } : Jvm.MethodName) prog_26_method_6_code (8 : Nat) (Option.some Jvm.ClassFile.FieldType.int)).before args0 about1 = true := code_word (m := ⟨2, 3⟩) (meth := k2m3) (c := k2c3) (by decide +kernel) rfl rfl rfl (by decide +kernel)
set_option maxRecDepth 65536 in
theorem w_c7 : (Jvm.Cond.code ({ cls := "com/example/tidematch/tidematch/greedy/VertexTable", name := "insert", desc := "(I)I" } : Jvm.MethodName) prog_26_method_3_code (2 : Nat) (Option.some Jvm.ClassFile.FieldType.int)).before args0 about1 = true := code_word (m := ⟨2, 1⟩) (meth := k2m1) (c := k2c1) (by decide +kernel) rfl rfl rfl (by decide +kernel)
set_option maxRecDepth 65536 in
theorem w_c8 : (Jvm.Cond.code ({ cls := "com/example/tidematch/tidematch/greedy/VertexTable", name := "isFull", desc := "()Z" } : Jvm.MethodName) prog_26_method_4_code (1 : Nat) (Option.some Jvm.ClassFile.FieldType.boolean)).before args0 about1 = true := code_word (m := ⟨2, 2⟩) (meth := k2m2) (c := k2c2) (by decide +kernel) rfl rfl rfl (by decide +kernel)
set_option maxRecDepth 65536 in
theorem w_c9 : (Jvm.Cond.code ({ cls := "com/example/tidematch/tidematch/greedy/VertexTable", name := "place", desc := "(I)I" } : Jvm.MethodName) prog_26_method_12_code (4 : Nat) (Option.some Jvm.ClassFile.FieldType.int)).before args0 about1 = true := code_word (m := ⟨2, 5⟩) (meth := k2m5) (c := k2c5) (by decide +kernel) rfl rfl rfl (by decide +kernel)
set_option maxRecDepth 65536 in
theorem w_c10 : (Jvm.Cond.code ({ cls := "com/example/tidematch/tidematch/greedy/VertexTable", name := "home", desc := "(I)I" } : Jvm.MethodName) prog_26_method_11_code (2 : Nat) (Option.some Jvm.ClassFile.FieldType.int)).before args0 about1 = true := code_word (m := ⟨2, 4⟩) (meth := k2m4) (c := k2c4) (by decide +kernel) rfl rfl rfl (by decide +kernel)
set_option maxRecDepth 65536 in
theorem w_c11 : (Jvm.Cond.code ({ cls := "java/lang/Integer", name := "numberOfLeadingZeros", desc := "(I)I" } : Jvm.MethodName) jdk_33_method_47_code (2 : Nat) (Option.some Jvm.ClassFile.FieldType.int)).before args0 about1 = true := code_word (m := ⟨9, 0⟩) (meth := k9m0) (c := k9c0) (by decide +kernel) rfl rfl rfl (by decide +kernel)
def codes1 : List Jvm.Cond := [Jvm.Cond.code x code maxLocals ret, Jvm.Cond.code ({ cls := "com/example/tidematch/tidematch/greedy/VertexTable", name := "<init>", desc := "(Z)V" } : Jvm.MethodName) prog_26_method_1_code (2 : Nat) (Option.none : Option Jvm.ClassFile.FieldType), Jvm.Cond.code ({ cls := "java/lang/Object", name := "<init>", desc := "()V" } : Jvm.MethodName) object_method_1_code (1 : Nat) (Option.none : Option Jvm.ClassFile.FieldType), Jvm.Cond.code ({ cls := "com/example/tidematch/tidematch/greedy/VertexTable", name := "freeSlots", desc := "(I)[I" } : Jvm.MethodName) prog_26_method_15_code (2 : Nat) (Option.some (Jvm.ClassFile.FieldType.array Jvm.ClassFile.FieldType.int)), Jvm.Cond.code ({ cls := "java/util/Arrays", name := "fill", desc := "([II)V" } : Jvm.MethodName) jdk_65_method_103_code (4 : Nat) (Option.none : Option Jvm.ClassFile.FieldType), Jvm.Cond.code ({ cls := "com/example/tidematch/tidematch/greedy/VertexTableCountBelowPinLaw", name := "below", desc := "(ZIJ)I" } : Jvm.MethodName) method_3_code (4 : Nat) (Option.some Jvm.ClassFile.FieldType.int), Jvm.Cond.code ({ cls := "com/example/tidematch/tidematch/greedy/VertexTable", name := "countBelow", desc := "(J)I" } : Jvm.MethodName) prog_26_method_6_code (8 : Nat) (Option.some Jvm.ClassFile.FieldType.int), Jvm.Cond.code ({ cls := "com/example/tidematch/tidematch/greedy/VertexTable", name := "insert", desc := "(I)I" } : Jvm.MethodName) prog_26_method_3_code (2 : Nat) (Option.some Jvm.ClassFile.FieldType.int), Jvm.Cond.code ({ cls := "com/example/tidematch/tidematch/greedy/VertexTable", name := "isFull", desc := "()Z" } : Jvm.MethodName) prog_26_method_4_code (1 : Nat) (Option.some Jvm.ClassFile.FieldType.boolean), Jvm.Cond.code ({ cls := "com/example/tidematch/tidematch/greedy/VertexTable", name := "place", desc := "(I)I" } : Jvm.MethodName) prog_26_method_12_code (4 : Nat) (Option.some Jvm.ClassFile.FieldType.int), Jvm.Cond.code ({ cls := "com/example/tidematch/tidematch/greedy/VertexTable", name := "home", desc := "(I)I" } : Jvm.MethodName) prog_26_method_11_code (2 : Nat) (Option.some Jvm.ClassFile.FieldType.int), Jvm.Cond.code ({ cls := "java/lang/Integer", name := "numberOfLeadingZeros", desc := "(I)I" } : Jvm.MethodName) jdk_33_method_47_code (2 : Nat) (Option.some Jvm.ClassFile.FieldType.int)]
set_option maxRecDepth 65536 in
theorem codes_eq : words1.filter isCode = codes1 := rfl
theorem w_codes : ∀ c ∈ words1.filter isCode, c.before args0 about1 = true := by
  rw [codes_eq]
  intro c hc
  simp only [codes1, List.mem_cons, List.not_mem_nil, or_false] at hc
  rcases hc with rfl | rfl | rfl | rfl | rfl | rfl | rfl | rfl | rfl | rfl | rfl | rfl
  · exact w_c0
  · exact w_c1
  · exact w_c2
  · exact w_c3
  · exact w_c4
  · exact w_c5
  · exact w_c6
  · exact w_c7
  · exact w_c8
  · exact w_c9
  · exact w_c10
  · exact w_c11
set_option maxRecDepth 65536 in
theorem w_t1 : (words1.take 24).all (fun c => isCode c || c.before args0 about1) = true := by decide +kernel
set_option maxRecDepth 65536 in
theorem w_t2 : ((words1.drop 24).take 24).all (fun c => isCode c || c.before args0 about1) = true := by decide +kernel
set_option maxRecDepth 65536 in
theorem w_t3 : ((words1.drop 24).drop 24).all (fun c => isCode c || c.before args0 about1) = true := by decide +kernel
theorem w_tables : (allAtoms (Jvm.Cond.code x code maxLocals ret :: tables_1)).before args0 about1 = true := by
  rw [allAtoms_all]
  show words1.all (fun c => c.before args0 about1) = true
  refine all_split ?_ w_codes
  rw [← List.take_append_drop 24 words1, List.all_append, w_t1, ← List.take_append_drop 24 (words1.drop 24), List.all_append, w_t2, w_t3]
  rfl
set_option maxRecDepth 65536 in
theorem w_case : (Jvm.Cond.and given_1 narrow_1).before args0 about1 = true := by decide +kernel
theorem w_applies : (headSpec (Jvm.Cond.code x code maxLocals ret :: tables_1) room_1).applies x e0.platform about1 = true :=
  (Spec.applies_iff w_frames).mpr ⟨w_running, w_runnable, w_alone, w_named, w_hears, w_ripe, w_room, w_tables⟩
theorem atStart : AtStart classFile x code maxLocals ret World_1 tables_1 room_1 Calls_1 rest_1 Pre_1 launch0 p0 e0 about1 theMethod args0 below0 :=
  ⟨lists_1, trivial, launch0.admits_env _ _ _, launch0.least_env, fairChoices_fair.cas, fairChoices_fair.clock, w_frames, w_args, w_heap, w_applies, trivial, trivial, w_case⟩
end start1
theorem witness_1 : WitnessClaimed_1 := ⟨start1.p0, start1.e0, start1.about1, start1.theMethod, start1.args0, start1.below0, start1.atStart⟩
end Jvm.Pilot.@@N@@
