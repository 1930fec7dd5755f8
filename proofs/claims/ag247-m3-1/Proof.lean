import JvmDerived
import JvmDerived.Pilot.@@N@@Statement
import JvmDerived.Pilot.@@N@@Code
set_option linter.unusedVariables false
set_option linter.unusedSimpArgs false
namespace Jvm.Pilot.@@N@@
open Jvm Jvm.ClassFile Sem Op Lib Jvm.Free Jvm.Stand Jvm.LawKit Jvm.RoadKit Bundle Jvm.Pilot.@@N@@.Jvm.D
def Go (p : Program) (e : Env) (below : List Frame) (s : State) (Q : Option Value → Heap → List Loc → Prop) (rc rs : Nat) (S : State) : Prop :=
  ∃ s₂ o, Steps p.tables e below S s₂ ∧ s₂.status = .running ∧ Ended s₂ below o ∧ ∃ v L, o = .returned v ∧ Q v s₂.heap L ∧ FrameEnd s o s₂ L rc rs
section OwnGo
variable {p : Program} {l : Launch} {e : Env} {R : Room} {s : State} {m : MethodId} {args : Array Value} {below : List Frame} {meth : Method} {c : Code} {T : State} {locs : List Loc} {cells slots : Nat} {Q : Option Value → Heap → List Loc → Prop} {rc rs : Nat}
theorem Go.via {S S' : State} (h : ∀ t, Steps p.tables e below S' t → Steps p.tables e below S t) (g : Go p e below s Q rc rs S') : Go p e below s Q rc rs S :=
  let ⟨s₂, o, a, b⟩ := g; ⟨s₂, o, h _ a, b⟩
theorem Go.retI (X : Stand p l e R s m args below meth c T locs cells slots) (hx : p.tables.exec = Jvm.exec) (hlk : meth.locks = false) {pc : Nat} {Ls : Array Slot} {z : Int32} {rest : List Value} (hret : meth.sig.returnType = some .int) (hd : decode c.code pc = .ok (.ireturn, 1))
    (hq : Q (some (.int z)) T.heap locs) (hc : cells ≤ rc) (hs : slots ≤ rs) : Go p e below s Q rc rs (T.setTop (mkF m pc Ls (.int z :: rest))) := by
  obtain ⟨fs, hr, hrun, hended, hW, hsame⟩ := X.leave (v := some (.int z)) (fun h => by rw [hret] at h; cases h)
  exact ⟨_, _, retOut X hx hret rfl (Or.inl ⟨rfl, Or.inl rfl, _, rfl⟩) hd hr, hrun, hended, _, _, rfl, hq, ⟨_, rfl⟩, hW, hsame.mono hc hs⟩
theorem Go.retB (X : Stand p l e R s m args below meth c T locs cells slots) (hx : p.tables.exec = Jvm.exec) (hlk : meth.locks = false) {pc : Nat} {Ls : Array Slot} {z : Int32} {rest : List Value} (hret : meth.sig.returnType = some .boolean) (hd : decode c.code pc = .ok (.ireturn, 1)) (hz : narrow .boolean (.int z) = .int z)
    (hq : Q (some (.int z)) T.heap locs) (hc : cells ≤ rc) (hs : slots ≤ rs) : Go p e below s Q rc rs (T.setTop (mkF m pc Ls (.int z :: rest))) := by
  obtain ⟨fs, hr, hrun, hended, hW, hsame⟩ := X.leave (v := some (.int z)) (fun h => by rw [hret] at h; cases h)
  exact ⟨_, _, retOut X hx hret hz (Or.inl ⟨rfl, Or.inr (Or.inl rfl), _, rfl⟩) hd hr, hrun, hended, _, _, rfl, hq, ⟨_, rfl⟩, hW, hsame.mono hc hs⟩
theorem Go.retC (X : Stand p l e R s m args below meth c T locs cells slots) (hx : p.tables.exec = Jvm.exec) (hlk : meth.locks = false) {pc : Nat} {Ls : Array Slot} {z : Int32} {rest : List Value} (hret : meth.sig.returnType = some .char) (hd : decode c.code pc = .ok (.ireturn, 1)) (hz : narrow .char (.int z) = .int z)
    (hq : Q (some (.int z)) T.heap locs) (hc : cells ≤ rc) (hs : slots ≤ rs) : Go p e below s Q rc rs (T.setTop (mkF m pc Ls (.int z :: rest))) := by
  obtain ⟨fs, hr, hrun, hended, hW, hsame⟩ := X.leave (v := some (.int z)) (fun h => by rw [hret] at h; cases h)
  exact ⟨_, _, retOut X hx hret hz (Or.inl ⟨rfl, Or.inr (Or.inr (Or.inr (Or.inl rfl))), _, rfl⟩) hd hr, hrun, hended, _, _, rfl, hq, ⟨_, rfl⟩, hW, hsame.mono hc hs⟩
theorem Go.retJ (X : Stand p l e R s m args below meth c T locs cells slots) (hx : p.tables.exec = Jvm.exec) (hlk : meth.locks = false) {pc : Nat} {Ls : Array Slot} {z : Int64} {rest : List Value} (hret : meth.sig.returnType = some .long) (hd : decode c.code pc = .ok (.lreturn, 1))
    (hq : Q (some (.long z)) T.heap locs) (hc : cells ≤ rc) (hs : slots ≤ rs) : Go p e below s Q rc rs (T.setTop (mkF m pc Ls (.long z :: rest))) := by
  obtain ⟨fs, hr, hrun, hended, hW, hsame⟩ := X.leave (v := some (.long z)) (fun h => by rw [hret] at h; cases h)
  exact ⟨_, _, retOut X hx hret rfl (Or.inr (Or.inl ⟨rfl, rfl, _, rfl⟩)) hd hr, hrun, hended, _, _, rfl, hq, ⟨_, rfl⟩, hW, hsame.mono hc hs⟩
theorem Go.retA (X : Stand p l e R s m args below meth c T locs cells slots) (hx : p.tables.exec = Jvm.exec) (hlk : meth.locks = false) {pc : Nat} {Ls : Array Slot} {z : Value} {rest : List Value} {t : FieldType} (hret : meth.sig.returnType = some t) (ht : t.isReference = true) (hz : z.isRef = true) (hn : narrow t z = z) (hd : decode c.code pc = .ok (.areturn, 1))
    (hq : Q (some z) T.heap locs) (hc : cells ≤ rc) (hs : slots ≤ rs) : Go p e below s Q rc rs (T.setTop (mkF m pc Ls (z :: rest))) := by
  obtain ⟨fs, hr, hrun, hended, hW, hsame⟩ := X.leave (v := some z) (fun h => by rw [hret] at h; cases h)
  exact ⟨_, _, retOut X hx hret hn (Or.inr (Or.inr (Or.inr (Or.inr ⟨rfl, ht, hz⟩)))) hd hr, hrun, hended, _, _, rfl, hq, ⟨_, rfl⟩, hW, hsame.mono hc hs⟩
theorem Go.retV (X : Stand p l e R s m args below meth c T locs cells slots) (hx : p.tables.exec = Jvm.exec) (hlk : meth.locks = false) {pc : Nat} {Ls : Array Slot} (hret : meth.sig.returnType = none) (hd : decode c.code pc = .ok (.return_, 1))
    (hq : Q none T.heap locs) (hc : cells ≤ rc) (hs : slots ≤ rs) : Go p e below s Q rc rs (T.setTop (mkF m pc Ls [])) := by
  obtain ⟨fs, hr, hrun, hended, hW, hsame⟩ := X.leave (v := none) (fun _ => rfl)
  exact ⟨_, _, X.returnOut hx hret hd hr, hrun, hended, _, _, rfl, hq, ⟨_, rfl⟩, hW, hsame.mono hc hs⟩
def GoW (p : Program) (e : Env) (below : List Frame) (s : State) (Q : Option Value → Heap → List Loc → Prop) (rc rs : Nat) (S : State) : Prop :=
  ∃ s₂ o, Steps p.tables e below S s₂ ∧ s₂.status = .running ∧ Ended s₂ below o ∧ ∃ v L, o = .returned v ∧ Q v s₂.heap L ∧ ReturnedEndW s o s₂ L rc rs
theorem GoW.via {S S' : State} (h : ∀ t, Steps p.tables e below S' t → Steps p.tables e below S t) (g : GoW p e below s Q rc rs S') : GoW p e below s Q rc rs S :=
  let ⟨s₂, o, a, b⟩ := g; ⟨s₂, o, h _ a, b⟩
theorem GoW.retB {vm₁ : Vm} (X : Stand p l e R (s.setVm vm₁) m args below meth c T locs cells slots) (hx : p.tables.exec = Jvm.exec) (hlk : meth.locks = false) {n : Nat} (hS : s.Since vm₁ n) (hn : n ≤ T.heap.size) {pc : Nat} {Ls : Array Slot} {z : Int32} {rest : List Value} (hret : meth.sig.returnType = some .boolean) (hd : decode c.code pc = .ok (.ireturn, 1)) (hz : narrow .boolean (.int z) = .int z)
    (hq : Q (some (.int z)) T.heap locs) (hc : cells ≤ rc) (hs : slots ≤ rs) : GoW p e below s Q rc rs (T.setTop (mkF m pc Ls (.int z :: rest))) := by
  obtain ⟨fs, hr, hrun, hended, hE⟩ := X.leaveW hS hn (v := some (.int z)) (fun h => by rw [hret] at h; cases h)
  exact ⟨_, _, retOut X hx hret hz (Or.inl ⟨rfl, Or.inr (Or.inl rfl), _, rfl⟩) hd hr, hrun, hended, _, _, rfl, hq, hE.1, hE.2.1, hE.2.2.1, hE.2.2.2.mono hc hs⟩
end OwnGo
theorem own_sel {s : State} {args : Array Value} {y : MethodName} {n : Nat} (wi : (Jvm.Cond.instantiable y.cls n).before args s = true) (hpriv : s.PrivateAt y) (hinst : (Jvm.Cond.instanceMethod y).before args s = true) (hy : y.cls ≠ "java/lang/invoke/MethodHandle" ∧ y.cls ≠ "java/lang/invoke/VarHandle") : (Jvm.Cond.selects y.cls y y).before args s = true := by
  obtain ⟨c, k, h1, h2, h3, h4, -⟩ := Cond.instantiable_spec wi
  have h5 : k.isInterface = false := by
    cases hq : k.isInterface
    · rfl
    · rw [hq] at h4; cases h4
  exact Jvm.Stand.selects_self_of_private h1 h2 h5 hpriv hinst hy
theorem own_lc1 {x y : Int64} (h : x < y) : lcmpW x y < 0 := (lw_lt x y).mpr h
theorem own_lc2 {x y : Int64} (h : ¬ x < y) : ¬ lcmpW x y < 0 := fun q => h ((lw_lt x y).mp q)
theorem own_lc3 {x y : Int64} (h : y < x) : 0 < lcmpW x y := (lw_gt x y).mpr h
theorem own_lc4 {x y : Int64} (h : ¬ y < x) : ¬ 0 < lcmpW x y := fun q => h ((lw_gt x y).mp q)
theorem own_lc5 {x y : Int64} (h : x = y) : lcmpW x y = 0 := (lw_eq x y).mpr h
theorem own_lc6 {x y : Int64} (h : ¬ x = y) : ¬ lcmpW x y = 0 := fun q => h ((lw_eq x y).mp q)
theorem own_n2i {i : Nat} (h : i < 2 ^ 31) : (Int32.ofNat i).toInt = i := Int32.toInt_ofNat_small h
theorem own_ncl {i : Nat} (h : i < 2 ^ 31) : (Int32.ofNat i).toNatClampNeg = i := by
  show (Int32.ofNat i).toInt.toNat = i
  rw [own_n2i h]; rfl
theorem own_nn {i : Nat} (h : i < 2 ^ 31) : ¬ Int32.ofNat i < 0 := by
  rw [Int32.lt_iff_toInt_lt, own_n2i h]
  show ¬ ((i : Int) < 0)
  omega
theorem own_lt {i n : Nat} (hi : i < 2 ^ 31) (hn : n < 2 ^ 31) : Int32.ofNat i < Int32.ofNat n ↔ i < n := by
  rw [Int32.lt_iff_toInt_lt, own_n2i hi, own_n2i hn]
  omega
theorem own_succ (i : Nat) : Int32.ofNat i + (1 : Int32) = Int32.ofNat (i + 1) := by
  rw [Int32.ofNat_add]; rfl
theorem own_add (i k : Nat) : Int32.ofNat i + Int32.ofNat k = Int32.ofNat (i + k) := (Int32.ofNat_add i k).symm
theorem own_len {s : State} {args : Array Value} {t : Jvm.Term} {a : Addr} {c : Cell} {z : Int32} (ht : t.eval args s none [] s = some (.ref a)) (hc : s.arrayAt? a = some c) (hl : (Jvm.Term.length t).eval args s none [] s = some (.int z)) : c.slots.size < 2 ^ 31 ∧ c.slots.size.toInt32 = z := by
  simpa [Term.eval, ht, hc] using hl
/-- a byte array of n places; place j holds f j -/
def own_BA (Z : State) (h : Heap) (a : Addr) (n : Nat) (f : Nat → Int32) : Prop := ∃ c : Cell, Arr Z h a c .byte ∧ c.slots.size = n ∧ (∀ j, j < n → c.slots[j]? = some (.int (f j))) ∧ ∀ j, j < n → fits .byte (.int (f j)) = true
section OwnBA
variable {Z : State} {h h' : Heap} {a b : Addr} {n : Nat} {f g : Nat → Int32} {sl : Nat} {v : Value} {ws : List Addr}
theorem own_BA.lt (F : own_BA Z h a n f) : a < h.size := by obtain ⟨c, A, -⟩ := F; exact A.lt
theorem own_BA.ext (F : own_BA Z h a n f) (E : Ext h h') : own_BA Z h' a n f := by obtain ⟨c, A, r⟩ := F; exact ⟨c, A.ext E, r⟩
theorem own_BA.other (F : own_BA Z h b n f) (W : Wr h h' a sl v) (q : b ≠ a) : own_BA Z h' b n f := by obtain ⟨c, A, r⟩ := F; exact ⟨c, A.other W q, r⟩
theorem own_BA.keep (F : own_BA Z h a n f) (K : Keep h h' ws) (q : a ∉ ws) : own_BA Z h' a n f := by obtain ⟨c, A, r⟩ := F; exact ⟨c, ⟨K.2.1 a c A.1 q, A.2⟩, r⟩
theorem own_BA.new {k : ClassId} {z : Int32} (A : Arr Z h a (newA k .byte z) .byte) : own_BA Z h a z.toNatClampNeg (fun _ => 0) :=
  ⟨_, A, sz_new _ _ _, fun j hj => by simp [newA, hj, defaultValue], fun _ _ => rfl⟩
theorem own_BA.set {c : Cell} {j : Nat} {x : Int32} (A : Arr Z h a c .byte) (S : c.slots.size = n) (H : ∀ j, j < n → c.slots[j]? = some (.int (f j))) (G : ∀ j, j < n → fits .byte (.int (f j)) = true) (W : Wr h h' a j (.int (nar .byte x))) (hj : j < n) : own_BA Z h' a n (fun i => if i = j then nar .byte x else f i) := by
  refine ⟨c.setSlot j (.int (nar .byte x)), A.same W, by rw [sz_set]; exact S, fun i hi => ?_, fun i hi => ?_⟩
  · by_cases e : i = j
    · subst e
      simp [Cell.setSlot, S, hj]
    · simp only [Cell.setSlot, e, if_false]
      rw [Array.getElem?_setIfInBounds_ne (Ne.symm e)]
      exact H i hi
  · by_cases e : i = j
    · simp only [e, if_true]; exact fits_nar_byte _
    · simp only [e, if_false]; exact G i hi
theorem own_BA.arv (F : own_BA Z h a n f) (hn : n < 2 ^ 31) : ∃ k, Arv Z h a k .byte (Int32.ofNat n) ((List.range n).map fun i => .int (f i)) (.int 0) := by
  obtain ⟨c, A, S, H, G⟩ := F
  have e : ∀ i, i < n → ((List.range n).map fun i => Value.int (f i)).getD i (.int 0) = .int (f i) := fun i hi => by simp [List.getD_eq_getElem?_getD, hi]
  refine ⟨c.cls, c, A, rfl, by rw [own_ncl hn]; exact S, own_nn hn, fun i hi => ?_, fun i hi => ?_⟩
  · rw [S] at hi; rw [e i hi]; exact H i hi
  · rw [S] at hi; rw [e i hi]; exact G i hi
theorem own_BA.of {k : ClassId} {vs : List Value} (F : Arv Z h a k .byte (Int32.ofNat n) vs (.int 0)) (hn : n < 2 ^ 31) : ∃ f, own_BA Z h a n f := by
  obtain ⟨c, A, -, S, -, H, G⟩ := F
  rw [own_ncl hn] at S
  have q : ∀ i, i < n → ∃ x, vs.getD i (.int 0) = .int x := fun i hi => by
    have := G i (by omega)
    cases hv : vs.getD i (.int 0) <;> rw [hv] at this <;> first | exact ⟨_, rfl⟩ | (simp [fits] at this)
  refine ⟨fun i => match vs.getD i (.int 0) with | .int x => x | _ => 0, c, A, S, fun i hi => ?_, fun i hi => ?_⟩
  · obtain ⟨x, e⟩ := q i hi
    rw [H i (by omega)]
    simp only [e]
  · obtain ⟨x, e⟩ := q i hi
    have := G i (by omega)
    rw [e] at this
    simp only [e]
    exact this
end OwnBA
theorem own_sub {i k : Nat} (h : k ≤ i) : Int32.ofNat i - Int32.ofNat k = Int32.ofNat (i - k) := by
  have : Int32.ofNat i = Int32.ofNat (i - k) + Int32.ofNat k := by rw [own_add]; congr 1; omega
  rw [this, Int32.add_sub_cancel]
theorem own_byte (x : Int32) : 0 ≤ (x &&& (255 : Int32)).toInt ∧ (x &&& (255 : Int32)).toInt ≤ 255 := by
  have := c_mask x 255 8 (by decide) (by decide)
  omega
theorem d4_0 : decode jdk_41_method_12_code 0 = .ok (.iload_n 0, 1) := by decide +kernel
theorem d4_1 : decode jdk_41_method_12_code 1 = .ok (.ifCond .lt 13, 3) := by decide +kernel
theorem d4_4 : decode jdk_41_method_12_code 4 = .ok (.iload_n 0, 1) := by decide +kernel
theorem d4_5 : decode jdk_41_method_12_code 5 = .ok (.iload_n 1, 1) := by decide +kernel
theorem d4_6 : decode jdk_41_method_12_code 6 = .ok (.if_icmp .gt 8, 3) := by decide +kernel
theorem d4_9 : decode jdk_41_method_12_code 9 = .ok (.iload_n 1, 1) := by decide +kernel
theorem d4_10 : decode jdk_41_method_12_code 10 = .ok (.iload_n 2, 1) := by decide +kernel
theorem d4_11 : decode jdk_41_method_12_code 11 = .ok (.if_icmp .le 11, 3) := by decide +kernel
theorem d4_22 : decode jdk_41_method_12_code 22 = .ok (.iload_n 0, 1) := by decide +kernel
theorem d4_23 : decode jdk_41_method_12_code 23 = .ok (.ireturn, 1) := by decide +kernel
theorem pn_0 : plainName "jdk/internal/util/Preconditions" = true := by first | (simp [plainName, overriddenIn]; done) | decide +kernel
theorem ef_4 (m : MethodId) (x0 : Int32) (x1 : Int32) (x2 : Int32) : entryFrame m #[(.int x0), (.int x1), (.int x2), .null] 4 = mkF m 0 #[.val (.int x0), .val (.int x1), .val (.int x2), .val .null] [] := by first | (simp [entryFrame, mkF, argsToLocals, Value.category]; done) | rfl
def Q4 (Z : State) (p1 : Int32) (p2 : Int32) (p3 : Int32) (h0 : Heap) (n0 : Nat) (v : Option Value) (h : Heap) (L : List Loc) : Prop := v = some (.int p1) ∧ Fr n0 L ∧ h = h0
set_option maxRecDepth 65536 in
set_option maxHeartbeats 40000000 in
theorem rm4 (l : Launch) (Z : State) (a0 : Array Value) (hw : ∀ d ∈ tables_1, d.before a0 Z = true) (ws : List Jvm.Cond) (p1 : Int32) (p2 : Int32) (p3 : Int32) (h0 : Heap) (n0 : Nat) (Z0 : n0 ≤ h0.size) (h1 : ¬ p1 < 0) (h2 : ¬ p2 < p1) (h3 : ¬ p3 < p2) :
    MetFree l (⟨"jdk/internal/util/Preconditions", "checkFromToIndex", "(IIILjava/util/function/BiFunction;)I"⟩ : MethodName) (head1 (Jvm.Cond.code (⟨"jdk/internal/util/Preconditions", "checkFromToIndex", "(IIILjava/util/function/BiFunction;)I"⟩ : MethodName) jdk_41_method_12_code 4 (some .int) :: ws) ({ frames := 0, cells := 0, slots := 0, locals := 0 } : Room)) (fun a U => a = #[(.int p1), (.int p2), (.int p3), .null] ∧ Z.Warmed39 U.vm ∧ U.heap = h0) (fun _ _ _ _ _ => True) (fun _ U o U' => ∃ v L, o = .returned v ∧ Q4 Z p1 p2 p3 h0 n0 v U'.heap L ∧ FrameEnd U o U' L ({ frames := 0, cells := 0, slots := 0, locals := 0 } : Room).cells ({ frames := 0, cells := 0, slots := 0, locals := 0 } : Room).slots) := by
  refine MetFree.of_bodySF (plainFor_of_name pn_0) hisR ?_
  intro p e s m args below meth c s₁ Bd hml0 hP hK
  obtain ⟨rfl, hZ, hh⟩ := hP
  have hx := Bd.exec
  have hby := Bd.bytes
  have hml : c.maxLocals = 4 := hml0
  have hown : s.vm.findClass "jdk/internal/util/Preconditions" = some m.cls := findClass_of_methodNamed Bd.named
  have hnm := (name_of_methodNamed Bd.named Bd.method).1
  have X0 : Stand p l e ({ frames := 0, cells := 0, slots := 0, locals := 0 } : Room) s m #[(.int p1), (.int p2), (.int p3), .null] below meth c s₁ [] 0 0 := Stand.of_body Bd
  have e0 : s₁.heap = h0 := by rw [← hh, Bd.state]; rfl
  have N0 := Fr.nil n0
  show Go p e below s (Q4 Z p1 p2 p3 h0 n0) ({ frames := 0, cells := 0, slots := 0, locals := 0 } : Room).cells ({ frames := 0, cells := 0, slots := 0, locals := 0 } : Room).slots _
  refine Go.via (S' := s₁.setTop (mkF m 0 #[.val (.int p1), .val (.int p2), .val (.int p3), .val .null] [])) (fun t k => castTop (ef_4 m p1 p2 p3) k) ?_
  refine Go.via (S' := s₁.setTop (mkF m 1 #[.val (.int p1), .val (.int p2), .val (.int p3), .val .null] [(.int p1)])) (fun _ k => XS.iloadN X0.here hx rfl (hb hby d4_0) rfl k) ?_
  refine Go.via (S' := s₁.setTop (mkF m 4 #[.val (.int p1), .val (.int p2), .val (.int p3), .val .null] [])) (fun _ k => XS.ifNo X0.here hx rfl (hb hby d4_1) rfl ((if0 _ _).trans (flt h1).1) k) ?_
  refine Go.via (S' := s₁.setTop (mkF m 5 #[.val (.int p1), .val (.int p2), .val (.int p3), .val .null] [(.int p1)])) (fun _ k => XS.iloadN X0.here hx rfl (hb hby d4_4) rfl k) ?_
  refine Go.via (S' := s₁.setTop (mkF m 6 #[.val (.int p1), .val (.int p2), .val (.int p3), .val .null] [(.int p2), (.int p1)])) (fun _ k => XS.iloadN X0.here hx rfl (hb hby d4_5) rfl k) ?_
  refine Go.via (S' := s₁.setTop (mkF m 9 #[.val (.int p1), .val (.int p2), .val (.int p3), .val .null] [])) (fun _ k => XS.icmpNo X0.here hx rfl (hb hby d4_6) rfl (flt h2).2.2.1 k) ?_
  refine Go.via (S' := s₁.setTop (mkF m 10 #[.val (.int p1), .val (.int p2), .val (.int p3), .val .null] [(.int p2)])) (fun _ k => XS.iloadN X0.here hx rfl (hb hby d4_9) rfl k) ?_
  refine Go.via (S' := s₁.setTop (mkF m 11 #[.val (.int p1), .val (.int p2), .val (.int p3), .val .null] [(.int p3), (.int p2)])) (fun _ k => XS.iloadN X0.here hx rfl (hb hby d4_10) rfl k) ?_
  refine Go.via (S' := s₁.setTop (mkF m 22 #[.val (.int p1), .val (.int p2), .val (.int p3), .val .null] [])) (fun _ k => XS.icmpYes X0.here hx rfl (pc0 := 11) (pc' := 22) rfl (hb hby d4_11) rfl (flt h3).2.2.2 (by decide) (by decide) k) ?_
  refine Go.via (S' := s₁.setTop (mkF m 23 #[.val (.int p1), .val (.int p2), .val (.int p3), .val .null] [(.int p1)])) (fun _ k => XS.iloadN X0.here hx rfl (hb hby d4_22) rfl k) ?_
  exact Go.retI X0 hx (BodyLoose.notSynchronized Bd) Bd.returns (hb hby d4_23) (by rw [e0]; exact ⟨rfl, N0, rfl⟩) (by decide) (by decide)
theorem d3_0 : decode jdk_31_method_18_code 0 = .ok (.iload_n 0, 1) := by decide +kernel
theorem d3_1 : decode jdk_31_method_18_code 1 = .ok (.iload_n 1, 1) := by decide +kernel
theorem d3_2 : decode jdk_31_method_18_code 2 = .ok (.iload_n 2, 1) := by decide +kernel
theorem d3_3 : decode jdk_31_method_18_code 3 = .ok (.aconst_null, 1) := by decide +kernel
theorem d3_4 : decode jdk_31_method_18_code 4 = .ok (.invokestatic 111, 3) := by decide +kernel
theorem pd_0 : parseMethodDescriptor "(IIILjava/util/function/BiFunction;)I" = some ⟨[.int, .int, .int, (.object "java/util/function/BiFunction")], some .int⟩ := by decide +kernel
theorem d3_7 : decode jdk_31_method_18_code 7 = .ok (.ireturn, 1) := by decide +kernel
theorem pn_1 : plainName "java/util/Objects" = true := by first | (simp [plainName, overriddenIn]; done) | decide +kernel
theorem ef_3 (m : MethodId) (x0 : Int32) (x1 : Int32) (x2 : Int32) : entryFrame m #[(.int x0), (.int x1), (.int x2)] 3 = mkF m 0 #[.val (.int x0), .val (.int x1), .val (.int x2)] [] := by first | (simp [entryFrame, mkF, argsToLocals, Value.category]; done) | rfl
def Q3 (Z : State) (p1 : Int32) (p2 : Int32) (p3 : Int32) (h0 : Heap) (n0 : Nat) (v : Option Value) (h : Heap) (L : List Loc) : Prop := v = some (.int p1) ∧ Fr n0 L ∧ h = h0
set_option maxRecDepth 65536 in
set_option maxHeartbeats 40000000 in
theorem rm3 (l : Launch) (Z : State) (a0 : Array Value) (hw : ∀ d ∈ tables_1, d.before a0 Z = true) (ws : List Jvm.Cond) (p1 : Int32) (p2 : Int32) (p3 : Int32) (h0 : Heap) (n0 : Nat) (Z0 : n0 ≤ h0.size) (h1 : ¬ p1 < 0) (h2 : ¬ p2 < p1) (h3 : ¬ p3 < p2) :
    MetFree l (⟨"java/util/Objects", "checkFromToIndex", "(III)I"⟩ : MethodName) (head1 (Jvm.Cond.code (⟨"java/util/Objects", "checkFromToIndex", "(III)I"⟩ : MethodName) jdk_31_method_18_code 3 (some .int) :: ws) ({ frames := 1, cells := 0, slots := 0, locals := 15 } : Room)) (fun a U => a = #[(.int p1), (.int p2), (.int p3)] ∧ Z.Warmed39 U.vm ∧ U.heap = h0) (fun _ _ _ _ _ => True) (fun _ U o U' => ∃ v L, o = .returned v ∧ Q3 Z p1 p2 p3 h0 n0 v U'.heap L ∧ FrameEnd U o U' L ({ frames := 1, cells := 0, slots := 0, locals := 15 } : Room).cells ({ frames := 1, cells := 0, slots := 0, locals := 15 } : Room).slots) := by
  refine MetFree.of_bodySF (plainFor_of_name pn_1) hisR ?_
  intro p e s m args below meth c s₁ Bd hml0 hP hK
  obtain ⟨rfl, hZ, hh⟩ := hP
  have hx := Bd.exec
  have hby := Bd.bytes
  have hml : c.maxLocals = 3 := hml0
  have hown : s.vm.findClass "java/util/Objects" = some m.cls := findClass_of_methodNamed Bd.named
  have hnm := (name_of_methodNamed Bd.named Bd.method).1
  have X0 : Stand p l e ({ frames := 1, cells := 0, slots := 0, locals := 15 } : Room) s m #[(.int p1), (.int p2), (.int p3)] below meth c s₁ [] 0 0 := Stand.of_body Bd
  have e0 : s₁.heap = h0 := by rw [← hh, Bd.state]; rfl
  have N0 := Fr.nil n0
  show Go p e below s (Q3 Z p1 p2 p3 h0 n0) ({ frames := 1, cells := 0, slots := 0, locals := 15 } : Room).cells ({ frames := 1, cells := 0, slots := 0, locals := 15 } : Room).slots _
  refine Go.via (S' := s₁.setTop (mkF m 0 #[.val (.int p1), .val (.int p2), .val (.int p3)] [])) (fun t k => castTop (ef_3 m p1 p2 p3) k) ?_
  refine Go.via (S' := s₁.setTop (mkF m 1 #[.val (.int p1), .val (.int p2), .val (.int p3)] [(.int p1)])) (fun _ k => XS.iloadN X0.here hx rfl (hb hby d3_0) rfl k) ?_
  refine Go.via (S' := s₁.setTop (mkF m 2 #[.val (.int p1), .val (.int p2), .val (.int p3)] [(.int p2), (.int p1)])) (fun _ k => XS.iloadN X0.here hx rfl (hb hby d3_1) rfl k) ?_
  refine Go.via (S' := s₁.setTop (mkF m 3 #[.val (.int p1), .val (.int p2), .val (.int p3)] [(.int p3), (.int p2), (.int p1)])) (fun _ k => XS.iloadN X0.here hx rfl (hb hby d3_2) rfl k) ?_
  refine Go.via (S' := s₁.setTop (mkF m 4 #[.val (.int p1), .val (.int p2), .val (.int p3)] [.null, (.int p3), (.int p2), (.int p1)])) (fun _ k => XS.aconstNull X0.here hx rfl (hb hby d3_3) k) ?_
  obtain ⟨_, _, ⟨T1, L1, k1, n1⟩, -, X1, ⟨Lc1, hQ1, l1, y1, z1⟩, st1⟩ := Jvm.LawKit.callS X0 hx (y := (⟨"jdk/internal/util/Preconditions", "checkFromToIndex", "(IIILjava/util/function/BiFunction;)I"⟩ : MethodName)) hown (mvT hZ (hw _ (List.mem_of_getElem? (i := 15) rfl))) (mvT hZ (hw _ (List.mem_of_getElem? (i := 16) rfl))) (mvT hZ (hw _ (List.mem_of_getElem? (i := 17) rfl))) (mvT hZ (hw _ (List.mem_of_getElem? (i := 18) rfl))) (by decide) (backOf (W := 0) (rm4 l Z a0 hw [] p1 p2 p3 h0 n0 Z0 h1 h2 h3) hZ (hw _ (List.mem_of_getElem? (i := 18) rfl)) (hw _ (List.mem_of_getElem? (i := 17) rfl)) (by decide) (by decide)) (g := (mkF m 4 #[.val (.int p1), .val (.int p2), .val (.int p3)] [.null, (.int p3), (.int p2), (.int p1)])) rfl (by rw [hml]; rfl) (argsL := [(.int p1), (.int p2), (.int p3), .null]) (rest := []) (lenOf pd_0 rfl) rfl (by show 2 * 0 + _ ≤ _; exact Nat.le_of_eq rfl) (hb hby d3_4) (fun _ _ => ⟨rfl, e0, (by decide : 0 + 0 ≤ _), (by decide : 0 + 0 ≤ _)⟩)
  dsimp only [Pt.U, Pt.locs, Pt.cells, Pt.slots] at X1 l1 y1 z1 st1 hQ1
  subst l1 y1 z1
  obtain ⟨rfl, N1q, e1⟩ := hQ1
  have N2 := Fr.app N0 N1q
  refine Go.via (S' := T1.setTop (mkF m 7 #[.val (.int p1), .val (.int p2), .val (.int p3)] [(.int p1)])) (fun _ k => st1 _ k) ?_
  exact Go.retI X1 hx (BodyLoose.notSynchronized Bd) Bd.returns (hb hby d3_7) (by rw [e1]; exact ⟨rfl, N2, rfl⟩) (by decide) (by decide)
theorem d5_0 : decode prog_34_method_16_code 0 = .ok (.iconst 0, 1) := by decide +kernel
theorem d5_1 : decode prog_34_method_16_code 1 = .ok (.istore_n 2, 1) := by decide +kernel
theorem d5_2 : decode prog_34_method_16_code 2 = .ok (.iconst 1, 1) := by decide +kernel
theorem d5_3 : decode prog_34_method_16_code 3 = .ok (.istore_n 3, 1) := by decide +kernel
theorem d5_4 : decode prog_34_method_16_code 4 = .ok (.iload_n 3, 1) := by decide +kernel
theorem d5_5 : decode prog_34_method_16_code 5 = .ok (.iload_n 1, 1) := by decide +kernel
theorem d5_6 : decode prog_34_method_16_code 6 = .ok (.iconst 5, 1) := by decide +kernel
theorem d5_7 : decode prog_34_method_16_code 7 = .ok (.isub, 1) := by decide +kernel
theorem d5_8 : decode prog_34_method_16_code 8 = .ok (.if_icmp .gt 19, 3) := by decide +kernel
theorem d5_27 : decode prog_34_method_16_code 27 = .ok (.iload_n 2, 1) := by decide +kernel
theorem d5_28 : decode prog_34_method_16_code 28 = .ok (.sipush 255, 3) := by decide +kernel
theorem d5_31 : decode prog_34_method_16_code 31 = .ok (.iand, 1) := by decide +kernel
theorem d5_32 : decode prog_34_method_16_code 32 = .ok (.ireturn, 1) := by decide +kernel
theorem d5_11 : decode prog_34_method_16_code 11 = .ok (.iload_n 2, 1) := by decide +kernel
theorem d5_12 : decode prog_34_method_16_code 12 = .ok (.aload_n 0, 1) := by decide +kernel
theorem d5_13 : decode prog_34_method_16_code 13 = .ok (.iload_n 3, 1) := by decide +kernel
theorem d5_14 : decode prog_34_method_16_code 14 = .ok (.baload, 1) := by decide +kernel
theorem d5_15 : decode prog_34_method_16_code 15 = .ok (.sipush 255, 3) := by decide +kernel
theorem d5_18 : decode prog_34_method_16_code 18 = .ok (.iand, 1) := by decide +kernel
theorem d5_19 : decode prog_34_method_16_code 19 = .ok (.iadd, 1) := by decide +kernel
theorem d5_20 : decode prog_34_method_16_code 20 = .ok (.istore_n 2, 1) := by decide +kernel
theorem d5_21 : decode prog_34_method_16_code 21 = .ok (.iinc 3 1, 3) := by decide +kernel
theorem d5_24 : decode prog_34_method_16_code 24 = .ok (.goto (-20), 3) := by decide +kernel
theorem pn_2 : plainName "com/example/assayline/assayline/Frame" = true := by first | (simp [plainName, overriddenIn]; done) | decide +kernel
theorem ef_5 (m : MethodId) (x0 : Addr) (x1 : Int32) : entryFrame m #[(.ref x0), (.int x1)] 4 = mkF m 0 #[.val (.ref x0), .val (.int x1), .unset, .unset] [] := by first | (simp [entryFrame, mkF, argsToLocals, Value.category]; done) | rfl
def Q5 (Z : State) (a1 : Addr) (p2 : Int32) (nn : Nat) (f : Nat → Int32) (h0 : Heap) (n0 : Nat) (v : Option Value) (h : Heap) (L : List Loc) : Prop := ∃ r : Int32, v = some (.int r) ∧ Fr n0 L ∧ h = h0 ∧ 0 ≤ r.toInt ∧ r.toInt ≤ 255
set_option maxRecDepth 65536 in
set_option maxHeartbeats 40000000 in
theorem rm5 (l : Launch) (Z : State) (a0 : Array Value) (hw : ∀ d ∈ tables_1, d.before a0 Z = true) (ws : List Jvm.Cond) (a1 : Addr) (p2 : Int32) (nn : Nat) (f : Nat → Int32) (h0 : Heap) (n0 : Nat) (Z0 : n0 ≤ h0.size) (V1 : own_BA Z h0 a1 nn f) (hp : p2 = Int32.ofNat nn) (hn : 7 ≤ nn ∧ nn < 1000) :
    MetFree l (⟨"com/example/assayline/assayline/Frame", "checksum", "([BI)I"⟩ : MethodName) (head1 (Jvm.Cond.code (⟨"com/example/assayline/assayline/Frame", "checksum", "([BI)I"⟩ : MethodName) prog_34_method_16_code 4 (some .int) :: ws) ({ frames := 0, cells := 0, slots := 0, locals := 0 } : Room)) (fun a U => a = #[(.ref a1), (.int p2)] ∧ Z.Warmed39 U.vm ∧ U.heap = h0) (fun _ _ _ _ _ => True) (fun _ U o U' => ∃ v L, o = .returned v ∧ Q5 Z a1 p2 nn f h0 n0 v U'.heap L ∧ FrameEnd U o U' L ({ frames := 0, cells := 0, slots := 0, locals := 0 } : Room).cells ({ frames := 0, cells := 0, slots := 0, locals := 0 } : Room).slots) := by
  refine MetFree.of_bodySF (plainFor_of_name pn_2) hisR ?_
  intro p e s m args below meth c s₁ Bd hml0 hP hK
  obtain ⟨rfl, hZ, hh⟩ := hP
  have hx := Bd.exec
  have hby := Bd.bytes
  have hml : c.maxLocals = 4 := hml0
  have hown : s.vm.findClass "com/example/assayline/assayline/Frame" = some m.cls := findClass_of_methodNamed Bd.named
  have hnm := (name_of_methodNamed Bd.named Bd.method).1
  have X0 : Stand p l e ({ frames := 0, cells := 0, slots := 0, locals := 0 } : Room) s m #[(.ref a1), (.int p2)] below meth c s₁ [] 0 0 := Stand.of_body Bd
  have e0 : s₁.heap = h0 := by rw [← hh, Bd.state]; rfl
  have N0 := Fr.nil n0
  show Go p e below s (Q5 Z a1 p2 nn f h0 n0) ({ frames := 0, cells := 0, slots := 0, locals := 0 } : Room).cells ({ frames := 0, cells := 0, slots := 0, locals := 0 } : Room).slots _
  refine Go.via (S' := s₁.setTop (mkF m 0 #[.val (.ref a1), .val (.int p2), .unset, .unset] [])) (fun t k => castTop (ef_5 m a1 p2) k) ?_
  subst hp
  refine Go.via (S' := s₁.setTop (mkF m 1 #[.val (.ref a1), .val (.int (Int32.ofNat nn)), .unset, .unset] [(.int (0 : Int32))])) (fun _ k => XS.iconst X0.here hx rfl (hb hby d5_0) k) ?_
  refine Go.via (S' := s₁.setTop (mkF m 2 #[.val (.ref a1), .val (.int (Int32.ofNat nn)), .val (.int (0 : Int32)), .unset] [])) (fun _ k => XS.istoreN X0.here hx rfl (hb hby d5_1) rfl (l' := #[.val (.ref a1), .val (.int (Int32.ofNat nn)), .val (.int (0 : Int32)), .unset]) rfl k) ?_
  refine Go.via (S' := s₁.setTop (mkF m 3 #[.val (.ref a1), .val (.int (Int32.ofNat nn)), .val (.int (0 : Int32)), .unset] [(.int (1 : Int32))])) (fun _ k => XS.iconst X0.here hx rfl (hb hby d5_2) k) ?_
  refine Go.via (S' := s₁.setTop (mkF m 4 #[.val (.ref a1), .val (.int (Int32.ofNat nn)), .val (.int (0 : Int32)), .val (.int (1 : Int32))] [])) (fun _ k => XS.istoreN X0.here hx rfl (hb hby d5_3) rfl (l' := #[.val (.ref a1), .val (.int (Int32.ofNat nn)), .val (.int (0 : Int32)), .val (.int (1 : Int32))]) rfl k) ?_
  suffices LP : ∀ (k : Nat) (i : Nat) (S_ : Int32) (hik : i + k = nn - 5 + 1), Go p e below s (Q5 Z a1 (Int32.ofNat nn) nn f h0 n0) ({ frames := 0, cells := 0, slots := 0, locals := 0 } : Room).cells ({ frames := 0, cells := 0, slots := 0, locals := 0 } : Room).slots (s₁.setTop (mkF m 4 #[.val (.ref a1), .val (.int (Int32.ofNat nn)), .val (.int S_), .val (.int (Int32.ofNat i))] [])) by
    exact LP (nn - 5) 1 _ (by omega)
  intro k
  induction k with
  | zero =>
    intro i S_ hik
    refine Go.via (S' := s₁.setTop (mkF m 5 #[.val (.ref a1), .val (.int (Int32.ofNat nn)), .val (.int S_), .val (.int (Int32.ofNat i))] [(.int (Int32.ofNat i))])) (fun _ k => XS.iloadN X0.here hx rfl (hb hby d5_4) rfl k) ?_
    refine Go.via (S' := s₁.setTop (mkF m 6 #[.val (.ref a1), .val (.int (Int32.ofNat nn)), .val (.int S_), .val (.int (Int32.ofNat i))] [(.int (Int32.ofNat nn)), (.int (Int32.ofNat i))])) (fun _ k => XS.iloadN X0.here hx rfl (hb hby d5_5) rfl k) ?_
    refine Go.via (S' := s₁.setTop (mkF m 7 #[.val (.ref a1), .val (.int (Int32.ofNat nn)), .val (.int S_), .val (.int (Int32.ofNat i))] [(.int (5 : Int32)), (.int (Int32.ofNat nn)), (.int (Int32.ofNat i))])) (fun _ k => XS.iconst X0.here hx rfl (hb hby d5_6) k) ?_
    refine Go.via (S' := s₁.setTop (mkF m 8 #[.val (.ref a1), .val (.int (Int32.ofNat nn)), .val (.int S_), .val (.int (Int32.ofNat i))] [(.int ((Int32.ofNat nn) - (5 : Int32))), (.int (Int32.ofNat i))])) (fun _ k => XS.isub X0.here hx rfl (hb hby d5_7) rfl k) ?_
    rw [show (Int32.ofNat nn) - (5 : Int32) = Int32.ofNat (nn - 5) from own_sub (i := nn) (k := 5) (by omega)]
    refine Go.via (S' := s₁.setTop (mkF m 27 #[.val (.ref a1), .val (.int (Int32.ofNat nn)), .val (.int S_), .val (.int (Int32.ofNat i))] [])) (fun _ k => XS.icmpYes X0.here hx rfl (pc0 := 8) (pc' := 27) rfl (hb hby d5_8) rfl (tlt ((own_lt (show nn - 5 < 2 ^ 31 by omega) (show i < 2 ^ 31 by omega)).mpr (by omega))).2.2.1 (by decide) (by decide) k) ?_
    refine Go.via (S' := s₁.setTop (mkF m 28 #[.val (.ref a1), .val (.int (Int32.ofNat nn)), .val (.int S_), .val (.int (Int32.ofNat i))] [(.int S_)])) (fun _ k => XS.iloadN X0.here hx rfl (hb hby d5_27) rfl k) ?_
    refine Go.via (S' := s₁.setTop (mkF m 31 #[.val (.ref a1), .val (.int (Int32.ofNat nn)), .val (.int S_), .val (.int (Int32.ofNat i))] [(.int (255 : Int32)), (.int S_)])) (fun _ k => XS.sipush X0.here hx rfl (hb hby d5_28) k) ?_
    refine Go.via (S' := s₁.setTop (mkF m 32 #[.val (.ref a1), .val (.int (Int32.ofNat nn)), .val (.int S_), .val (.int (Int32.ofNat i))] [(.int (S_ &&& (255 : Int32)))])) (fun _ k => XS.iand X0.here hx rfl (hb hby d5_31) rfl k) ?_
    exact Go.retI X0 hx (BodyLoose.notSynchronized Bd) Bd.returns (hb hby d5_32) (by rw [e0]; exact ⟨_, rfl, N0, rfl, own_byte _⟩) (by decide) (by decide)
  | succ k ih =>
    intro i S_ hik
    refine Go.via (S' := s₁.setTop (mkF m 5 #[.val (.ref a1), .val (.int (Int32.ofNat nn)), .val (.int S_), .val (.int (Int32.ofNat i))] [(.int (Int32.ofNat i))])) (fun _ k => XS.iloadN X0.here hx rfl (hb hby d5_4) rfl k) ?_
    refine Go.via (S' := s₁.setTop (mkF m 6 #[.val (.ref a1), .val (.int (Int32.ofNat nn)), .val (.int S_), .val (.int (Int32.ofNat i))] [(.int (Int32.ofNat nn)), (.int (Int32.ofNat i))])) (fun _ k => XS.iloadN X0.here hx rfl (hb hby d5_5) rfl k) ?_
    refine Go.via (S' := s₁.setTop (mkF m 7 #[.val (.ref a1), .val (.int (Int32.ofNat nn)), .val (.int S_), .val (.int (Int32.ofNat i))] [(.int (5 : Int32)), (.int (Int32.ofNat nn)), (.int (Int32.ofNat i))])) (fun _ k => XS.iconst X0.here hx rfl (hb hby d5_6) k) ?_
    refine Go.via (S' := s₁.setTop (mkF m 8 #[.val (.ref a1), .val (.int (Int32.ofNat nn)), .val (.int S_), .val (.int (Int32.ofNat i))] [(.int ((Int32.ofNat nn) - (5 : Int32))), (.int (Int32.ofNat i))])) (fun _ k => XS.isub X0.here hx rfl (hb hby d5_7) rfl k) ?_
    rw [show (Int32.ofNat nn) - (5 : Int32) = Int32.ofNat (nn - 5) from own_sub (i := nn) (k := 5) (by omega)]
    refine Go.via (S' := s₁.setTop (mkF m 11 #[.val (.ref a1), .val (.int (Int32.ofNat nn)), .val (.int S_), .val (.int (Int32.ofNat i))] [])) (fun _ k => XS.icmpNo X0.here hx rfl (hb hby d5_8) rfl (flt (fun q => by have := (own_lt (show nn - 5 < 2 ^ 31 by omega) (show i < 2 ^ 31 by omega)).mp q; omega)).2.2.1 k) ?_
    refine Go.via (S' := s₁.setTop (mkF m 12 #[.val (.ref a1), .val (.int (Int32.ofNat nn)), .val (.int S_), .val (.int (Int32.ofNat i))] [(.int S_)])) (fun _ k => XS.iloadN X0.here hx rfl (hb hby d5_11) rfl k) ?_
    refine Go.via (S' := s₁.setTop (mkF m 13 #[.val (.ref a1), .val (.int (Int32.ofNat nn)), .val (.int S_), .val (.int (Int32.ofNat i))] [(.ref a1), (.int S_)])) (fun _ k => XS.aloadN X0.here hx rfl (hb hby d5_12) rfl rfl k) ?_
    refine Go.via (S' := s₁.setTop (mkF m 14 #[.val (.ref a1), .val (.int (Int32.ofNat nn)), .val (.int S_), .val (.int (Int32.ofNat i))] [(.int (Int32.ofNat i)), (.ref a1), (.int S_)])) (fun _ k => XS.iloadN X0.here hx rfl (hb hby d5_13) rfl k) ?_
    obtain ⟨c1, Ar1, S1, H1, G1⟩ := id V1
    have in1 : ¬ ((Int32.ofNat i) < 0 ∨ c1.slots.size ≤ ((Int32.ofNat i)).toNatClampNeg) := by
      show ¬ (Int32.ofNat i < 0 ∨ c1.slots.size ≤ (Int32.ofNat i).toNatClampNeg)
      rw [S1, own_ncl (show i < 2 ^ 31 by omega)]
      exact fun q => q.elim (own_nn (show i < 2 ^ 31 by omega)) (Nat.not_le.mpr (show i < nn by omega))
    refine Go.via (S' := s₁.setTop (mkF m 15 #[.val (.ref a1), .val (.int (Int32.ofNat nn)), .val (.int S_), .val (.int (Int32.ofNat i))] [(.int (f i)), (.int S_)])) (fun _ k => X0.baloadBytes hx (j := (Int32.ofNat i)) (v := .int (f i)) (by rw [e0]; exact Ar1.1) (State.isArrayOf_alike hZ.alike Ar1.2.1) Ar1.2.2 in1 (by show c1.slots[(Int32.ofNat i).toNatClampNeg]? = _; rw [own_ncl (show i < 2 ^ 31 by omega)]; exact H1 _ (show i < nn by omega)) (g := (mkF m 14 #[.val (.ref a1), .val (.int (Int32.ofNat nn)), .val (.int S_), .val (.int (Int32.ofNat i))] [(.int (Int32.ofNat i)), (.ref a1), (.int S_)])) rfl rfl (hb hby d5_14) _ k) ?_
    refine Go.via (S' := s₁.setTop (mkF m 18 #[.val (.ref a1), .val (.int (Int32.ofNat nn)), .val (.int S_), .val (.int (Int32.ofNat i))] [(.int (255 : Int32)), (.int (f i)), (.int S_)])) (fun _ k => XS.sipush X0.here hx rfl (hb hby d5_15) k) ?_
    refine Go.via (S' := s₁.setTop (mkF m 19 #[.val (.ref a1), .val (.int (Int32.ofNat nn)), .val (.int S_), .val (.int (Int32.ofNat i))] [(.int ((f i) &&& (255 : Int32))), (.int S_)])) (fun _ k => XS.iand X0.here hx rfl (hb hby d5_18) rfl k) ?_
    refine Go.via (S' := s₁.setTop (mkF m 20 #[.val (.ref a1), .val (.int (Int32.ofNat nn)), .val (.int S_), .val (.int (Int32.ofNat i))] [(.int (S_ + ((f i) &&& (255 : Int32))))])) (fun _ k => XS.iadd X0.here hx rfl (hb hby d5_19) rfl k) ?_
    refine Go.via (S' := s₁.setTop (mkF m 21 #[.val (.ref a1), .val (.int (Int32.ofNat nn)), .val (.int (S_ + ((f i) &&& (255 : Int32)))), .val (.int (Int32.ofNat i))] [])) (fun _ k => XS.istoreN X0.here hx rfl (hb hby d5_20) rfl (l' := #[.val (.ref a1), .val (.int (Int32.ofNat nn)), .val (.int (S_ + ((f i) &&& (255 : Int32)))), .val (.int (Int32.ofNat i))]) rfl k) ?_
    refine Go.via (S' := s₁.setTop (mkF m 24 #[.val (.ref a1), .val (.int (Int32.ofNat nn)), .val (.int (S_ + ((f i) &&& (255 : Int32)))), .val (.int ((Int32.ofNat i) + (1 : Int32)))] [])) (fun _ k => XS.iinc X0.here hx rfl (hb hby d5_21) rfl (l' := #[.val (.ref a1), .val (.int (Int32.ofNat nn)), .val (.int (S_ + ((f i) &&& (255 : Int32)))), .val (.int ((Int32.ofNat i) + (1 : Int32)))]) rfl k) ?_
    refine Go.via (S' := s₁.setTop (mkF m 4 #[.val (.ref a1), .val (.int (Int32.ofNat nn)), .val (.int (S_ + ((f i) &&& (255 : Int32)))), .val (.int ((Int32.ofNat i) + (1 : Int32)))] [])) (fun _ k => XS.goto X0.here hx rfl (pc0 := 24) (pc' := 4) rfl (hb hby d5_24) (by decide) (by decide) k) ?_
    rw [own_succ]
    exact ih (i + 1) _ (by omega)
theorem own_hi {p : Int32} (h : 0 ≤ p.toInt ∧ p.toInt ≤ 255) : ¬ (p >>> ((4 : Int32) &&& 31)) < 0 ∧ (p >>> ((4 : Int32) &&& 31)) < 16 := by
  have e := c_ishr p 4 4 (by decide)
  have e2 : ((2 ^ 4 : Nat) : Int) = 16 := by decide
  rw [e2] at e
  rw [Int32.lt_iff_toInt_lt, Int32.lt_iff_toInt_lt, e]
  have e3 : (0 : Int32).toInt = 0 := rfl
  have e4 : (16 : Int32).toInt = 16 := rfl
  omega
theorem own_low (p : Int32) : ¬ (p &&& (15 : Int32)) < 0 ∧ (p &&& (15 : Int32)) < 16 := by
  have e := c_mask p 15 4 (by decide) (by decide)
  rw [Int32.lt_iff_toInt_lt, Int32.lt_iff_toInt_lt, e]
  have e3 : (0 : Int32).toInt = 0 := rfl
  have e4 : (16 : Int32).toInt = 16 := rfl
  omega
theorem d6_0 : decode prog_34_method_15_code 0 = .ok (.aload_n 0, 1) := by decide +kernel
theorem d6_1 : decode prog_34_method_15_code 1 = .ok (.aload_n 0, 1) := by decide +kernel
theorem d6_2 : decode prog_34_method_15_code 2 = .ok (.arraylength, 1) := by decide +kernel
theorem d6_3 : decode prog_34_method_15_code 3 = .ok (.iconst 4, 1) := by decide +kernel
theorem d6_4 : decode prog_34_method_15_code 4 = .ok (.isub, 1) := by decide +kernel
theorem d6_5 : decode prog_34_method_15_code 5 = .ok (.getstatic 94, 3) := by decide +kernel
theorem d6_8 : decode prog_34_method_15_code 8 = .ok (.iload_n 1, 1) := by decide +kernel
theorem d6_9 : decode prog_34_method_15_code 9 = .ok (.iconst 4, 1) := by decide +kernel
theorem d6_10 : decode prog_34_method_15_code 10 = .ok (.ishr, 1) := by decide +kernel
theorem d6_11 : decode prog_34_method_15_code 11 = .ok (.baload, 1) := by decide +kernel
theorem d6_12 : decode prog_34_method_15_code 12 = .ok (.bastore, 1) := by decide +kernel
theorem d6_13 : decode prog_34_method_15_code 13 = .ok (.aload_n 0, 1) := by decide +kernel
theorem d6_14 : decode prog_34_method_15_code 14 = .ok (.aload_n 0, 1) := by decide +kernel
theorem d6_15 : decode prog_34_method_15_code 15 = .ok (.arraylength, 1) := by decide +kernel
theorem d6_16 : decode prog_34_method_15_code 16 = .ok (.iconst 3, 1) := by decide +kernel
theorem d6_17 : decode prog_34_method_15_code 17 = .ok (.isub, 1) := by decide +kernel
theorem d6_18 : decode prog_34_method_15_code 18 = .ok (.getstatic 94, 3) := by decide +kernel
theorem d6_21 : decode prog_34_method_15_code 21 = .ok (.iload_n 1, 1) := by decide +kernel
theorem d6_22 : decode prog_34_method_15_code 22 = .ok (.bipush 15, 2) := by decide +kernel
theorem d6_24 : decode prog_34_method_15_code 24 = .ok (.iand, 1) := by decide +kernel
theorem d6_25 : decode prog_34_method_15_code 25 = .ok (.baload, 1) := by decide +kernel
theorem d6_26 : decode prog_34_method_15_code 26 = .ok (.bastore, 1) := by decide +kernel
theorem d6_27 : decode prog_34_method_15_code 27 = .ok (.return_, 1) := by decide +kernel
theorem ef_6 (m : MethodId) (x0 : Addr) (x1 : Int32) : entryFrame m #[(.ref x0), (.int x1)] 2 = mkF m 0 #[.val (.ref x0), .val (.int x1)] [] := by first | (simp [entryFrame, mkF, argsToLocals, Value.category]; done) | rfl
def Q6 (Z : State) (a1 : Addr) (p2 : Int32) (nn : Nat) (f : Nat → Int32) (hx_ : Addr) (cx_ : Cell) (h0 : Heap) (n0 : Nat) (v : Option Value) (h : Heap) (L : List Loc) : Prop := v = none ∧ Fr n0 L ∧ Keep h0 h [a1] ∧ ∃ g, own_BA Z h a1 nn g ∧ ∀ j, j < nn - 4 → g j = f j
set_option maxRecDepth 65536 in
set_option maxHeartbeats 40000000 in
theorem rm6 (l : Launch) (Z : State) (a0 : Array Value) (hw : ∀ d ∈ tables_1, d.before a0 Z = true) (ws : List Jvm.Cond) (a1 : Addr) (p2 : Int32) (nn : Nat) (f : Nat → Int32) (hx_ : Addr) (cx_ : Cell) (h0 : Heap) (n0 : Nat) (Z0 : n0 ≤ h0.size) (V1 : own_BA Z h0 a1 nn f) (hn : 7 ≤ nn ∧ nn < 1000) (g1 : n0 ≤ a1) (hp : 0 ≤ p2.toInt ∧ p2.toInt ≤ 255) (X00 : Old Z n0 h0) (Sx : Sta Z Z.heap "com/example/assayline/assayline/Frame" "HEX_DIGITS" "[B" (.ref hx_)) (Tx : Tab Z Z.heap hx_ cx_ .byte 16) :
    MetFree l (⟨"com/example/assayline/assayline/Frame", "writeChecksum", "([BI)V"⟩ : MethodName) (head1 (Jvm.Cond.code (⟨"com/example/assayline/assayline/Frame", "writeChecksum", "([BI)V"⟩ : MethodName) prog_34_method_15_code 2 none :: ws) ({ frames := 0, cells := 0, slots := 0, locals := 0 } : Room)) (fun a U => a = #[(.ref a1), (.int p2)] ∧ Z.Warmed39 U.vm ∧ U.heap = h0) (fun _ _ _ _ _ => True) (fun _ U o U' => ∃ v L, o = .returned v ∧ Q6 Z a1 p2 nn f hx_ cx_ h0 n0 v U'.heap L ∧ FrameEnd U o U' L ({ frames := 0, cells := 0, slots := 0, locals := 0 } : Room).cells ({ frames := 0, cells := 0, slots := 0, locals := 0 } : Room).slots) := by
  refine MetFree.of_bodySF (plainFor_of_name pn_2) hisR ?_
  intro p e s m args below meth c s₁ Bd hml0 hP hK
  obtain ⟨rfl, hZ, hh⟩ := hP
  have hx := Bd.exec
  have hby := Bd.bytes
  have hml : c.maxLocals = 2 := hml0
  have hown : s.vm.findClass "com/example/assayline/assayline/Frame" = some m.cls := findClass_of_methodNamed Bd.named
  have hnm := (name_of_methodNamed Bd.named Bd.method).1
  have X0 : Stand p l e ({ frames := 0, cells := 0, slots := 0, locals := 0 } : Room) s m #[(.ref a1), (.int p2)] below meth c s₁ [] 0 0 := Stand.of_body Bd
  have e0 : s₁.heap = h0 := by rw [← hh, Bd.state]; rfl
  have N0 := Fr.nil n0
  show Go p e below s (Q6 Z a1 p2 nn f hx_ cx_ h0 n0) ({ frames := 0, cells := 0, slots := 0, locals := 0 } : Room).cells ({ frames := 0, cells := 0, slots := 0, locals := 0 } : Room).slots _
  refine Go.via (S' := s₁.setTop (mkF m 0 #[.val (.ref a1), .val (.int p2)] [])) (fun t k => castTop (ef_6 m a1 p2) k) ?_
  refine Go.via (S' := s₁.setTop (mkF m 1 #[.val (.ref a1), .val (.int p2)] [(.ref a1)])) (fun _ k => XS.aloadN X0.here hx rfl (hb hby d6_0) rfl rfl k) ?_
  refine Go.via (S' := s₁.setTop (mkF m 2 #[.val (.ref a1), .val (.int p2)] [(.ref a1), (.ref a1)])) (fun _ k => XS.aloadN X0.here hx rfl (hb hby d6_1) rfl rfl k) ?_
  obtain ⟨c1, Ar1, S1, -⟩ := id V1
  refine Go.via (S' := s₁.setTop (mkF m 3 #[.val (.ref a1), .val (.int p2)] [(.int c1.slots.size.toInt32), (.ref a1)])) (fun _ k => X0.arraylength hx (by rw [e0]; exact Ar1.1) (State.isArrayOf_alike hZ.alike Ar1.2.1) (g := (mkF m 2 #[.val (.ref a1), .val (.int p2)] [(.ref a1), (.ref a1)])) rfl rfl (hb hby d6_2) _ k) ?_
  rw [S1]
  show Go p e below s (Q6 Z a1 p2 nn f hx_ cx_ h0 n0) ({ frames := 0, cells := 0, slots := 0, locals := 0 } : Room).cells ({ frames := 0, cells := 0, slots := 0, locals := 0 } : Room).slots (s₁.setTop (mkF m 3 #[.val (.ref a1), .val (.int p2)] [(.int (Int32.ofNat nn)), (.ref a1)]))
  refine Go.via (S' := s₁.setTop (mkF m 4 #[.val (.ref a1), .val (.int p2)] [(.int (4 : Int32)), (.int (Int32.ofNat nn)), (.ref a1)])) (fun _ k => XS.iconst X0.here hx rfl (hb hby d6_3) k) ?_
  refine Go.via (S' := s₁.setTop (mkF m 5 #[.val (.ref a1), .val (.int p2)] [(.int ((Int32.ofNat nn) - (4 : Int32))), (.ref a1)])) (fun _ k => XS.isub X0.here hx rfl (hb hby d6_4) rfl k) ?_
  rw [show (Int32.ofNat nn) - (4 : Int32) = Int32.ofNat (nn - 4) from own_sub (i := nn) (k := 4) (by omega)]
  have sx2 := Sx.ext X00.2
  obtain ⟨T3, X3, e3, st3⟩ := getS2 X0 hx hZ hown (host := "") (Or.inl (hw _ (List.mem_of_getElem? (i := 32) rfl))) Via.refl e0 sx2 (g := (mkF m 5 #[.val (.ref a1), .val (.int p2)] [(.int (Int32.ofNat (nn - 4))), (.ref a1)])) rfl (hb hby d6_5)
  refine Go.via (S' := T3.setTop (mkF m 8 #[.val (.ref a1), .val (.int p2)] [(.ref hx_), (.int (Int32.ofNat (nn - 4))), (.ref a1)])) (fun _ k => st3 _ k) ?_
  refine Go.via (S' := T3.setTop (mkF m 9 #[.val (.ref a1), .val (.int p2)] [(.int p2), (.ref hx_), (.int (Int32.ofNat (nn - 4))), (.ref a1)])) (fun _ k => XS.iloadN X3.here hx rfl (hb hby d6_8) rfl k) ?_
  refine Go.via (S' := T3.setTop (mkF m 10 #[.val (.ref a1), .val (.int p2)] [(.int (4 : Int32)), (.int p2), (.ref hx_), (.int (Int32.ofNat (nn - 4))), (.ref a1)])) (fun _ k => XS.iconst X3.here hx rfl (hb hby d6_9) k) ?_
  refine Go.via (S' := T3.setTop (mkF m 11 #[.val (.ref a1), .val (.int p2)] [(.int (p2 >>> ((4 : Int32) &&& 31))), (.ref hx_), (.int (Int32.ofNat (nn - 4))), (.ref a1)])) (fun _ k => XS.ishr X3.here hx rfl (hb hby d6_10) rfl k) ?_
  have Tx5 := Tx.ext X00.2
  have in5 : ¬ ((p2 >>> ((4 : Int32) &&& 31)) < 0 ∨ cx_.slots.size ≤ (p2 >>> ((4 : Int32) &&& 31)).toNatClampNeg) := inb_of Tx5.2.1 (own_hi hp)
  refine Go.via (S' := T3.setTop (mkF m 12 #[.val (.ref a1), .val (.int p2)] [(.int (atv cx_ (p2 >>> ((4 : Int32) &&& 31)))), (.int (Int32.ofNat (nn - 4))), (.ref a1)])) (fun _ k => X3.baloadBytes hx (j := (p2 >>> ((4 : Int32) &&& 31))) (v := .int (atv cx_ (p2 >>> ((4 : Int32) &&& 31)))) (by rw [e3]; exact Tx5.1.1) (State.isArrayOf_alike hZ.alike Tx5.1.2.1) Tx5.1.2.2 in5 (Tx5.2.2.2 _ in5) (g := (mkF m 11 #[.val (.ref a1), .val (.int p2)] [(.int (p2 >>> ((4 : Int32) &&& 31))), (.ref hx_), (.int (Int32.ofNat (nn - 4))), (.ref a1)])) rfl rfl (hb hby d6_11) _ k) ?_
  obtain ⟨c6, Ar6, S6, H6, G6⟩ := id V1
  have in6 : ¬ ((Int32.ofNat (nn - 4)) < 0 ∨ c6.slots.size ≤ ((Int32.ofNat (nn - 4))).toNatClampNeg) := by
    show ¬ (Int32.ofNat (nn - 4) < 0 ∨ c6.slots.size ≤ (Int32.ofNat (nn - 4)).toNatClampNeg)
    rw [S6, own_ncl (show (nn - 4) < 2 ^ 31 by omega)]
    exact fun q => q.elim (own_nn (show (nn - 4) < 2 ^ 31 by omega)) (Nat.not_le.mpr (show (nn - 4) < nn by omega))
  obtain ⟨T6, h6, X6, e6, W6, st6⟩ := stB X3 hx hZ e3 Ar6 (j := (Int32.ofNat (nn - 4))) in6 (g := (mkF m 12 #[.val (.ref a1), .val (.int p2)] [(.int (atv cx_ (p2 >>> ((4 : Int32) &&& 31)))), (.int (Int32.ofNat (nn - 4))), (.ref a1)])) rfl rfl (hb hby d6_12)
  have N7 := Fr.snoc X6 N0 g1
  have Wn6 : Wr _ _ _ (Int32.ofNat (nn - 4)).toNatClampNeg _ := W6
  rw [own_ncl (show (nn - 4) < 2 ^ 31 by omega)] at Wn6
  have V6 := own_BA.set Ar6 S6 H6 G6 Wn6 (show (nn - 4) < nn by omega)
  have f8 := X00.wr W6 g1
  have z9 := Nat.le_trans Z0 (Keep.of_wr W6).1
  have K10 := (Keep.refl h0 [a1]).wr W6 (Or.inl (List.mem_of_getElem? (i := 0) rfl))
  refine Go.via (S' := T6.setTop (mkF m 13 #[.val (.ref a1), .val (.int p2)] [])) (fun _ k => st6 _ k) ?_
  refine Go.via (S' := T6.setTop (mkF m 14 #[.val (.ref a1), .val (.int p2)] [(.ref a1)])) (fun _ k => XS.aloadN X6.here hx rfl (hb hby d6_13) rfl rfl k) ?_
  refine Go.via (S' := T6.setTop (mkF m 15 #[.val (.ref a1), .val (.int p2)] [(.ref a1), (.ref a1)])) (fun _ k => XS.aloadN X6.here hx rfl (hb hby d6_14) rfl rfl k) ?_
  obtain ⟨c11, Ar11, S11, -⟩ := id V6
  refine Go.via (S' := T6.setTop (mkF m 16 #[.val (.ref a1), .val (.int p2)] [(.int c11.slots.size.toInt32), (.ref a1)])) (fun _ k => X6.arraylength hx (by rw [e6]; exact Ar11.1) (State.isArrayOf_alike hZ.alike Ar11.2.1) (g := (mkF m 15 #[.val (.ref a1), .val (.int p2)] [(.ref a1), (.ref a1)])) rfl rfl (hb hby d6_15) _ k) ?_
  rw [S11]
  show Go p e below s (Q6 Z a1 p2 nn f hx_ cx_ h0 n0) ({ frames := 0, cells := 0, slots := 0, locals := 0 } : Room).cells ({ frames := 0, cells := 0, slots := 0, locals := 0 } : Room).slots (T6.setTop (mkF m 16 #[.val (.ref a1), .val (.int p2)] [(.int (Int32.ofNat nn)), (.ref a1)]))
  refine Go.via (S' := T6.setTop (mkF m 17 #[.val (.ref a1), .val (.int p2)] [(.int (3 : Int32)), (.int (Int32.ofNat nn)), (.ref a1)])) (fun _ k => XS.iconst X6.here hx rfl (hb hby d6_16) k) ?_
  refine Go.via (S' := T6.setTop (mkF m 18 #[.val (.ref a1), .val (.int p2)] [(.int ((Int32.ofNat nn) - (3 : Int32))), (.ref a1)])) (fun _ k => XS.isub X6.here hx rfl (hb hby d6_17) rfl k) ?_
  rw [show (Int32.ofNat nn) - (3 : Int32) = Int32.ofNat (nn - 3) from own_sub (i := nn) (k := 3) (by omega)]
  have sx12 := Sx.ext f8.2
  obtain ⟨T13, X13, e13, st13⟩ := getS2 X6 hx hZ hown (host := "") (Or.inl (hw _ (List.mem_of_getElem? (i := 32) rfl))) Via.refl e6 sx12 (g := (mkF m 18 #[.val (.ref a1), .val (.int p2)] [(.int (Int32.ofNat (nn - 3))), (.ref a1)])) rfl (hb hby d6_18)
  refine Go.via (S' := T13.setTop (mkF m 21 #[.val (.ref a1), .val (.int p2)] [(.ref hx_), (.int (Int32.ofNat (nn - 3))), (.ref a1)])) (fun _ k => st13 _ k) ?_
  refine Go.via (S' := T13.setTop (mkF m 22 #[.val (.ref a1), .val (.int p2)] [(.int p2), (.ref hx_), (.int (Int32.ofNat (nn - 3))), (.ref a1)])) (fun _ k => XS.iloadN X13.here hx rfl (hb hby d6_21) rfl k) ?_
  refine Go.via (S' := T13.setTop (mkF m 24 #[.val (.ref a1), .val (.int p2)] [(.int (15 : Int32)), (.int p2), (.ref hx_), (.int (Int32.ofNat (nn - 3))), (.ref a1)])) (fun _ k => XS.bipush X13.here hx rfl (hb hby d6_22) k) ?_
  refine Go.via (S' := T13.setTop (mkF m 25 #[.val (.ref a1), .val (.int p2)] [(.int (p2 &&& (15 : Int32))), (.ref hx_), (.int (Int32.ofNat (nn - 3))), (.ref a1)])) (fun _ k => XS.iand X13.here hx rfl (hb hby d6_24) rfl k) ?_
  have Tx15 := Tx.ext f8.2
  have in15 : ¬ ((p2 &&& (15 : Int32)) < 0 ∨ cx_.slots.size ≤ (p2 &&& (15 : Int32)).toNatClampNeg) := inb_of Tx15.2.1 (own_low p2)
  refine Go.via (S' := T13.setTop (mkF m 26 #[.val (.ref a1), .val (.int p2)] [(.int (atv cx_ (p2 &&& (15 : Int32)))), (.int (Int32.ofNat (nn - 3))), (.ref a1)])) (fun _ k => X13.baloadBytes hx (j := (p2 &&& (15 : Int32))) (v := .int (atv cx_ (p2 &&& (15 : Int32)))) (by rw [e13]; exact Tx15.1.1) (State.isArrayOf_alike hZ.alike Tx15.1.2.1) Tx15.1.2.2 in15 (Tx15.2.2.2 _ in15) (g := (mkF m 25 #[.val (.ref a1), .val (.int p2)] [(.int (p2 &&& (15 : Int32))), (.ref hx_), (.int (Int32.ofNat (nn - 3))), (.ref a1)])) rfl rfl (hb hby d6_25) _ k) ?_
  obtain ⟨c16, Ar16, S16, H16, G16⟩ := id V6
  have in16 : ¬ ((Int32.ofNat (nn - 3)) < 0 ∨ c16.slots.size ≤ ((Int32.ofNat (nn - 3))).toNatClampNeg) := by
    show ¬ (Int32.ofNat (nn - 3) < 0 ∨ c16.slots.size ≤ (Int32.ofNat (nn - 3)).toNatClampNeg)
    rw [S16, own_ncl (show (nn - 3) < 2 ^ 31 by omega)]
    exact fun q => q.elim (own_nn (show (nn - 3) < 2 ^ 31 by omega)) (Nat.not_le.mpr (show (nn - 3) < nn by omega))
  obtain ⟨T16, h16, X16, e16, W16, st16⟩ := stB X13 hx hZ e13 Ar16 (j := (Int32.ofNat (nn - 3))) in16 (g := (mkF m 26 #[.val (.ref a1), .val (.int p2)] [(.int (atv cx_ (p2 &&& (15 : Int32)))), (.int (Int32.ofNat (nn - 3))), (.ref a1)])) rfl rfl (hb hby d6_26)
  have N17 := Fr.snoc X16 N7 g1
  have Wn16 : Wr _ _ _ (Int32.ofNat (nn - 3)).toNatClampNeg _ := W16
  rw [own_ncl (show (nn - 3) < 2 ^ 31 by omega)] at Wn16
  have V16 := own_BA.set Ar16 S16 H16 G16 Wn16 (show (nn - 3) < nn by omega)
  have f18 := f8.wr W16 g1
  have z19 := Nat.le_trans z9 (Keep.of_wr W16).1
  have K20 := K10.wr W16 (Or.inl (List.mem_of_getElem? (i := 0) rfl))
  refine Go.via (S' := T16.setTop (mkF m 27 #[.val (.ref a1), .val (.int p2)] [])) (fun _ k => st16 _ k) ?_
  exact Go.retV X16 hx (BodyLoose.notSynchronized Bd) Bd.returns (hb hby d6_27) (by rw [e16]; exact ⟨rfl, N17, K20, _, V16, fun j hj => by simp only [show ¬ j = nn - 4 by omega, show ¬ j = nn - 3 by omega, if_false]⟩) (by decide) (by decide)
theorem d1_0 : decode prog_34_method_2_code 0 = .ok (.aload_n 0, 1) := by decide +kernel
theorem d1_1 : decode prog_34_method_2_code 1 = .ok (.invokespecial 7, 3) := by decide +kernel
theorem d1_4 : decode prog_34_method_2_code 4 = .ok (.iload_n 1, 1) := by decide +kernel
theorem d1_5 : decode prog_34_method_2_code 5 = .ok (.ifCond .lt 9, 3) := by decide +kernel
theorem d1_8 : decode prog_34_method_2_code 8 = .ok (.iload_n 1, 1) := by decide +kernel
theorem d1_9 : decode prog_34_method_2_code 9 = .ok (.bipush 7, 2) := by decide +kernel
theorem d1_11 : decode prog_34_method_2_code 11 = .ok (.if_icmp .le 17, 3) := by decide +kernel
theorem d1_28 : decode prog_34_method_2_code 28 = .ok (.iload_n 3, 1) := by decide +kernel
theorem d1_29 : decode prog_34_method_2_code 29 = .ok (.iload 4, 2) := by decide +kernel
theorem d1_31 : decode prog_34_method_2_code 31 = .ok (.aload_n 2, 1) := by decide +kernel
theorem d1_32 : decode prog_34_method_2_code 32 = .ok (.arraylength, 1) := by decide +kernel
theorem d1_33 : decode prog_34_method_2_code 33 = .ok (.invokestatic 21, 3) := by decide +kernel
theorem pd_1 : parseMethodDescriptor "(III)I" = some ⟨[.int, .int, .int], some .int⟩ := by decide +kernel
theorem d1_36 : decode prog_34_method_2_code 36 = .ok (.pop, 1) := by decide +kernel
theorem d1_37 : decode prog_34_method_2_code 37 = .ok (.iload 4, 2) := by decide +kernel
theorem d1_39 : decode prog_34_method_2_code 39 = .ok (.iload_n 3, 1) := by decide +kernel
theorem d1_40 : decode prog_34_method_2_code 40 = .ok (.isub, 1) := by decide +kernel
theorem d1_41 : decode prog_34_method_2_code 41 = .ok (.ldc 27, 2) := by decide +kernel
theorem d1_43 : decode prog_34_method_2_code 43 = .ok (.if_icmp .le 20, 3) := by decide +kernel
theorem d1_63 : decode prog_34_method_2_code 63 = .ok (.iload 4, 2) := by decide +kernel
theorem d1_65 : decode prog_34_method_2_code 65 = .ok (.iload_n 3, 1) := by decide +kernel
theorem d1_66 : decode prog_34_method_2_code 66 = .ok (.isub, 1) := by decide +kernel
theorem d1_67 : decode prog_34_method_2_code 67 = .ok (.bipush 7, 2) := by decide +kernel
theorem d1_69 : decode prog_34_method_2_code 69 = .ok (.iadd, 1) := by decide +kernel
theorem d1_70 : decode prog_34_method_2_code 70 = .ok (.istore 6, 2) := by decide +kernel
theorem d1_72 : decode prog_34_method_2_code 72 = .ok (.aload_n 0, 1) := by decide +kernel
theorem d1_73 : decode prog_34_method_2_code 73 = .ok (.iload 6, 2) := by decide +kernel
theorem d1_75 : decode prog_34_method_2_code 75 = .ok (.newarray .byte, 2) := by decide +kernel
theorem d1_77 : decode prog_34_method_2_code 77 = .ok (.putfield 29, 3) := by decide +kernel
theorem d1_80 : decode prog_34_method_2_code 80 = .ok (.aload_n 0, 1) := by decide +kernel
theorem d1_81 : decode prog_34_method_2_code 81 = .ok (.getfield 29, 3) := by decide +kernel
theorem d1_84 : decode prog_34_method_2_code 84 = .ok (.iconst 0, 1) := by decide +kernel
theorem d1_85 : decode prog_34_method_2_code 85 = .ok (.iconst 2, 1) := by decide +kernel
theorem d1_86 : decode prog_34_method_2_code 86 = .ok (.bastore, 1) := by decide +kernel
theorem d1_87 : decode prog_34_method_2_code 87 = .ok (.aload_n 0, 1) := by decide +kernel
theorem d1_88 : decode prog_34_method_2_code 88 = .ok (.getfield 29, 3) := by decide +kernel
theorem d1_91 : decode prog_34_method_2_code 91 = .ok (.iconst 1, 1) := by decide +kernel
theorem d1_92 : decode prog_34_method_2_code 92 = .ok (.bipush 48, 2) := by decide +kernel
theorem d1_94 : decode prog_34_method_2_code 94 = .ok (.iload_n 1, 1) := by decide +kernel
theorem d1_95 : decode prog_34_method_2_code 95 = .ok (.iadd, 1) := by decide +kernel
theorem d1_96 : decode prog_34_method_2_code 96 = .ok (.i2b, 1) := by decide +kernel
theorem d1_97 : decode prog_34_method_2_code 97 = .ok (.bastore, 1) := by decide +kernel
theorem d1_98 : decode prog_34_method_2_code 98 = .ok (.aload_n 2, 1) := by decide +kernel
theorem d1_99 : decode prog_34_method_2_code 99 = .ok (.iload_n 3, 1) := by decide +kernel
theorem d1_100 : decode prog_34_method_2_code 100 = .ok (.aload_n 0, 1) := by decide +kernel
theorem d1_101 : decode prog_34_method_2_code 101 = .ok (.getfield 29, 3) := by decide +kernel
theorem d1_104 : decode prog_34_method_2_code 104 = .ok (.iconst 2, 1) := by decide +kernel
theorem d1_105 : decode prog_34_method_2_code 105 = .ok (.iload 4, 2) := by decide +kernel
theorem d1_107 : decode prog_34_method_2_code 107 = .ok (.iload_n 3, 1) := by decide +kernel
theorem d1_108 : decode prog_34_method_2_code 108 = .ok (.isub, 1) := by decide +kernel
theorem d1_109 : decode prog_34_method_2_code 109 = .ok (.invokestatic 35, 3) := by decide +kernel
theorem d1_112 : decode prog_34_method_2_code 112 = .ok (.aload_n 0, 1) := by decide +kernel
theorem d1_113 : decode prog_34_method_2_code 113 = .ok (.getfield 29, 3) := by decide +kernel
theorem d1_116 : decode prog_34_method_2_code 116 = .ok (.iload 6, 2) := by decide +kernel
theorem d1_118 : decode prog_34_method_2_code 118 = .ok (.iconst 5, 1) := by decide +kernel
theorem d1_119 : decode prog_34_method_2_code 119 = .ok (.isub, 1) := by decide +kernel
theorem d1_120 : decode prog_34_method_2_code 120 = .ok (.iload 5, 2) := by decide +kernel
theorem d1_122 : decode prog_34_method_2_code 122 = .ok (.ifCond .eq 8, 3) := by decide +kernel
theorem d1_130 : decode prog_34_method_2_code 130 = .ok (.iconst 3, 1) := by decide +kernel
theorem d1_131 : decode prog_34_method_2_code 131 = .ok (.i2b, 1) := by decide +kernel
theorem d1_132 : decode prog_34_method_2_code 132 = .ok (.bastore, 1) := by decide +kernel
theorem d1_133 : decode prog_34_method_2_code 133 = .ok (.aload_n 0, 1) := by decide +kernel
theorem d1_134 : decode prog_34_method_2_code 134 = .ok (.getfield 29, 3) := by decide +kernel
theorem d1_137 : decode prog_34_method_2_code 137 = .ok (.aload_n 0, 1) := by decide +kernel
theorem d1_138 : decode prog_34_method_2_code 138 = .ok (.getfield 29, 3) := by decide +kernel
theorem d1_141 : decode prog_34_method_2_code 141 = .ok (.iload 6, 2) := by decide +kernel
theorem d1_143 : decode prog_34_method_2_code 143 = .ok (.invokestatic 41, 3) := by decide +kernel
theorem pd_2 : parseMethodDescriptor "([BI)I" = some ⟨[(.array .byte), .int], some .int⟩ := by decide +kernel
theorem d1_146 : decode prog_34_method_2_code 146 = .ok (.invokestatic 45, 3) := by decide +kernel
theorem pd_3 : parseMethodDescriptor "([BI)V" = some ⟨[(.array .byte), .int], none⟩ := by decide +kernel
theorem d1_149 : decode prog_34_method_2_code 149 = .ok (.aload_n 0, 1) := by decide +kernel
theorem d1_150 : decode prog_34_method_2_code 150 = .ok (.getfield 29, 3) := by decide +kernel
theorem d1_153 : decode prog_34_method_2_code 153 = .ok (.iload 6, 2) := by decide +kernel
theorem d1_155 : decode prog_34_method_2_code 155 = .ok (.iconst 2, 1) := by decide +kernel
theorem d1_156 : decode prog_34_method_2_code 156 = .ok (.isub, 1) := by decide +kernel
theorem d1_157 : decode prog_34_method_2_code 157 = .ok (.bipush 13, 2) := by decide +kernel
theorem d1_159 : decode prog_34_method_2_code 159 = .ok (.bastore, 1) := by decide +kernel
theorem d1_160 : decode prog_34_method_2_code 160 = .ok (.aload_n 0, 1) := by decide +kernel
theorem d1_161 : decode prog_34_method_2_code 161 = .ok (.getfield 29, 3) := by decide +kernel
theorem d1_164 : decode prog_34_method_2_code 164 = .ok (.iload 6, 2) := by decide +kernel
theorem d1_166 : decode prog_34_method_2_code 166 = .ok (.iconst 1, 1) := by decide +kernel
theorem d1_167 : decode prog_34_method_2_code 167 = .ok (.isub, 1) := by decide +kernel
theorem d1_168 : decode prog_34_method_2_code 168 = .ok (.bipush 10, 2) := by decide +kernel
theorem d1_170 : decode prog_34_method_2_code 170 = .ok (.bastore, 1) := by decide +kernel
theorem d1_171 : decode prog_34_method_2_code 171 = .ok (.return_, 1) := by decide +kernel
theorem d1_125 : decode prog_34_method_2_code 125 = .ok (.bipush 23, 2) := by decide +kernel
theorem d1_127 : decode prog_34_method_2_code 127 = .ok (.goto 4, 3) := by decide +kernel
theorem ef_1 (m : MethodId) (x0 : Addr) (x1 : Int32) (x2 : Addr) (x3 : Int32) (x4 : Int32) (x5 : Int32) : entryFrame m #[(.ref x0), (.int x1), (.ref x2), (.int x3), (.int x4), (.int x5)] 7 = mkF m 0 #[.val (.ref x0), .val (.int x1), .val (.ref x2), .val (.int x3), .val (.int x4), .val (.int x5), .unset] [] := by first | (simp [entryFrame, mkF, argsToLocals, Value.category]; done) | rfl
def Q1 (Z : State) (a1 : Addr) (p2 : Int32) (a3 : Addr) (p4 : Int32) (p5 : Int32) (p6 : Int32) (fn : Nat) (tn : Nat) (f : Nat → Int32) (hx_ : Addr) (cx_ : Cell) (h0 : Heap) (n0 : Nat) (v : Option Value) (h : Heap) (L : List Loc) : Prop := v = none ∧ Fr n0 L ∧ Keep h0 h [a1] ∧ ∃ (b : Addr) (nn : Nat) (g : Nat → Int32), Fld Z h a1 "com/example/assayline/assayline/Frame" "bytes" "[B" (.ref b) ∧ 7 ≤ nn ∧ nn < 1000 ∧ own_BA Z h b nn g ∧ ((p6 = 0 ∧ g (nn - 5) = 3) ∨ (¬ p6 = 0 ∧ g (nn - 5) = 23))
set_option maxRecDepth 65536 in
set_option maxHeartbeats 40000000 in
theorem rm1 (l : Launch) (Z : State) (a0 : Array Value) (hw : ∀ d ∈ tables_1, d.before a0 Z = true) (ws : List Jvm.Cond) (a1 : Addr) (p2 : Int32) (a3 : Addr) (p4 : Int32) (p5 : Int32) (p6 : Int32) (fn : Nat) (tn : Nat) (f : Nat → Int32) (hx_ : Addr) (cx_ : Cell) (h0 : Heap) (n0 : Nat) (Z0 : n0 ≤ h0.size) (E1 : Exa Z h0 a1 "com/example/assayline/assayline/Frame") (F1 : Fld Z h0 a1 "com/example/assayline/assayline/Frame" "bytes" "[B" .null) (g1 : n0 ≤ a1) (V3 : own_BA Z h0 a3 4 f) (ne13 : a3 ≠ a1) (hp2 : 0 ≤ p2.toInt ∧ p2.toInt ≤ 7) (hp4 : p4 = Int32.ofNat fn) (hp5 : p5 = Int32.ofNat tn) (hft : fn ≤ tn ∧ tn ≤ 4) (X00 : Old Z n0 h0) (Sx : Sta Z Z.heap "com/example/assayline/assayline/Frame" "HEX_DIGITS" "[B" (.ref hx_)) (Tx : Tab Z Z.heap hx_ cx_ .byte 16) :
    MetFree l (⟨"com/example/assayline/assayline/Frame", "<init>", "(I[BIIZ)V"⟩ : MethodName) (head1 (Jvm.Cond.code (⟨"com/example/assayline/assayline/Frame", "<init>", "(I[BIIZ)V"⟩ : MethodName) prog_34_method_2_code 7 none :: ws) ({ frames := 2, cells := 1, slots := 11, locals := 60 } : Room)) (fun a U => a = #[(.ref a1), (.int p2), (.ref a3), (.int p4), (.int p5), (.int p6)] ∧ Z.Warmed39 U.vm ∧ U.heap = h0) (fun _ _ _ _ _ => True) (fun _ U o U' => ∃ v L, o = .returned v ∧ Q1 Z a1 p2 a3 p4 p5 p6 fn tn f hx_ cx_ h0 n0 v U'.heap L ∧ FrameEnd U o U' L ({ frames := 2, cells := 1, slots := 11, locals := 60 } : Room).cells ({ frames := 2, cells := 1, slots := 11, locals := 60 } : Room).slots) := by
  refine MetFree.of_bodySF (plainFor_of_name pn_2) hisR ?_
  intro p e s m args below meth c s₁ Bd hml0 hP hK
  obtain ⟨rfl, hZ, hh⟩ := hP
  have hx := Bd.exec
  have hby := Bd.bytes
  have hml : c.maxLocals = 7 := hml0
  have hown : s.vm.findClass "com/example/assayline/assayline/Frame" = some m.cls := findClass_of_methodNamed Bd.named
  have hnm := (name_of_methodNamed Bd.named Bd.method).1
  have X0 : Stand p l e ({ frames := 2, cells := 1, slots := 11, locals := 60 } : Room) s m #[(.ref a1), (.int p2), (.ref a3), (.int p4), (.int p5), (.int p6)] below meth c s₁ [] 0 0 := Stand.of_body Bd
  have e0 : s₁.heap = h0 := by rw [← hh, Bd.state]; rfl
  have N0 := Fr.nil n0
  show Go p e below s (Q1 Z a1 p2 a3 p4 p5 p6 fn tn f hx_ cx_ h0 n0) ({ frames := 2, cells := 1, slots := 11, locals := 60 } : Room).cells ({ frames := 2, cells := 1, slots := 11, locals := 60 } : Room).slots _
  refine Go.via (S' := s₁.setTop (mkF m 0 #[.val (.ref a1), .val (.int p2), .val (.ref a3), .val (.int p4), .val (.int p5), .val (.int p6), .unset] [])) (fun t k => castTop (ef_1 m a1 p2 a3 p4 p5 p6) k) ?_
  subst hp4 hp5
  refine Go.via (S' := s₁.setTop (mkF m 1 #[.val (.ref a1), .val (.int p2), .val (.ref a3), .val (.int (Int32.ofNat fn)), .val (.int (Int32.ofNat tn)), .val (.int p6), .unset] [(.ref a1)])) (fun _ k => XS.aloadN X0.here hx rfl (hb hby d1_0) rfl rfl k) ?_
  obtain ⟨T1, X1, e1, st1⟩ := initO X0 hx hZ hown (hw _ (List.mem_of_getElem? (i := 8) rfl)) (hw _ (List.mem_of_getElem? (i := 9) rfl)) (hw _ (List.mem_of_getElem? (i := 10) rfl)) e0 (g := (mkF m 1 #[.val (.ref a1), .val (.int p2), .val (.ref a3), .val (.int (Int32.ofNat fn)), .val (.int (Int32.ofNat tn)), .val (.int p6), .unset] [(.ref a1)])) rfl (by rw [hml]; rfl) rfl (hb hby d1_1) (by decide) (W := 0) (by show 2 * 0 + _ ≤ _; exact Nat.le_of_eq rfl) (by decide)
  refine Go.via (S' := T1.setTop (mkF m 4 #[.val (.ref a1), .val (.int p2), .val (.ref a3), .val (.int (Int32.ofNat fn)), .val (.int (Int32.ofNat tn)), .val (.int p6), .unset] [])) (fun _ k => st1 _ k) ?_
  refine Go.via (S' := T1.setTop (mkF m 5 #[.val (.ref a1), .val (.int p2), .val (.ref a3), .val (.int (Int32.ofNat fn)), .val (.int (Int32.ofNat tn)), .val (.int p6), .unset] [(.int p2)])) (fun _ k => XS.iloadN X1.here hx rfl (hb hby d1_4) rfl k) ?_
  refine Go.via (S' := T1.setTop (mkF m 8 #[.val (.ref a1), .val (.int p2), .val (.ref a3), .val (.int (Int32.ofNat fn)), .val (.int (Int32.ofNat tn)), .val (.int p6), .unset] [])) (fun _ k => XS.ifNo X1.here hx rfl (hb hby d1_5) rfl ((if0 _ _).trans (flt (by rw [Int32.lt_iff_toInt_lt]; show ¬ (p2.toInt < 0); omega)).1) k) ?_
  refine Go.via (S' := T1.setTop (mkF m 9 #[.val (.ref a1), .val (.int p2), .val (.ref a3), .val (.int (Int32.ofNat fn)), .val (.int (Int32.ofNat tn)), .val (.int p6), .unset] [(.int p2)])) (fun _ k => XS.iloadN X1.here hx rfl (hb hby d1_8) rfl k) ?_
  refine Go.via (S' := T1.setTop (mkF m 11 #[.val (.ref a1), .val (.int p2), .val (.ref a3), .val (.int (Int32.ofNat fn)), .val (.int (Int32.ofNat tn)), .val (.int p6), .unset] [(.int (7 : Int32)), (.int p2)])) (fun _ k => XS.bipush X1.here hx rfl (hb hby d1_9) k) ?_
  refine Go.via (S' := T1.setTop (mkF m 28 #[.val (.ref a1), .val (.int p2), .val (.ref a3), .val (.int (Int32.ofNat fn)), .val (.int (Int32.ofNat tn)), .val (.int p6), .unset] [])) (fun _ k => XS.icmpYes X1.here hx rfl (pc0 := 11) (pc' := 28) rfl (hb hby d1_11) rfl (flt (by rw [Int32.lt_iff_toInt_lt]; show ¬ (7 < p2.toInt); omega)).2.2.2 (by decide) (by decide) k) ?_
  refine Go.via (S' := T1.setTop (mkF m 29 #[.val (.ref a1), .val (.int p2), .val (.ref a3), .val (.int (Int32.ofNat fn)), .val (.int (Int32.ofNat tn)), .val (.int p6), .unset] [(.int (Int32.ofNat fn))])) (fun _ k => XS.iloadN X1.here hx rfl (hb hby d1_28) rfl k) ?_
  refine Go.via (S' := T1.setTop (mkF m 31 #[.val (.ref a1), .val (.int p2), .val (.ref a3), .val (.int (Int32.ofNat fn)), .val (.int (Int32.ofNat tn)), .val (.int p6), .unset] [(.int (Int32.ofNat tn)), (.int (Int32.ofNat fn))])) (fun _ k => XS.iload X1.here hx rfl (hb hby d1_29) rfl k) ?_
  refine Go.via (S' := T1.setTop (mkF m 32 #[.val (.ref a1), .val (.int p2), .val (.ref a3), .val (.int (Int32.ofNat fn)), .val (.int (Int32.ofNat tn)), .val (.int p6), .unset] [(.ref a3), (.int (Int32.ofNat tn)), (.int (Int32.ofNat fn))])) (fun _ k => XS.aloadN X1.here hx rfl (hb hby d1_31) rfl rfl k) ?_
  obtain ⟨c2, Ar2, S2, -⟩ := id V3
  refine Go.via (S' := T1.setTop (mkF m 33 #[.val (.ref a1), .val (.int p2), .val (.ref a3), .val (.int (Int32.ofNat fn)), .val (.int (Int32.ofNat tn)), .val (.int p6), .unset] [(.int c2.slots.size.toInt32), (.int (Int32.ofNat tn)), (.int (Int32.ofNat fn))])) (fun _ k => X1.arraylength hx (by rw [e1]; exact Ar2.1) (State.isArrayOf_alike hZ.alike Ar2.2.1) (g := (mkF m 32 #[.val (.ref a1), .val (.int p2), .val (.ref a3), .val (.int (Int32.ofNat fn)), .val (.int (Int32.ofNat tn)), .val (.int p6), .unset] [(.ref a3), (.int (Int32.ofNat tn)), (.int (Int32.ofNat fn))])) rfl rfl (hb hby d1_32) _ k) ?_
  rw [S2]
  show Go p e below s (Q1 Z a1 p2 a3 (Int32.ofNat fn) (Int32.ofNat tn) p6 fn tn f hx_ cx_ h0 n0) ({ frames := 2, cells := 1, slots := 11, locals := 60 } : Room).cells ({ frames := 2, cells := 1, slots := 11, locals := 60 } : Room).slots (T1.setTop (mkF m 33 #[.val (.ref a1), .val (.int p2), .val (.ref a3), .val (.int (Int32.ofNat fn)), .val (.int (Int32.ofNat tn)), .val (.int p6), .unset] [(.int (4 : Int32)), (.int (Int32.ofNat tn)), (.int (Int32.ofNat fn))]))
  obtain ⟨_, _, ⟨T3, L3, k3, n3⟩, -, X3, ⟨Lc3, hQ3, l3, y3, z3⟩, st3⟩ := Jvm.LawKit.callS X1 hx (y := (⟨"java/util/Objects", "checkFromToIndex", "(III)I"⟩ : MethodName)) hown (mvT hZ (hw _ (List.mem_of_getElem? (i := 11) rfl))) (mvT hZ (hw _ (List.mem_of_getElem? (i := 12) rfl))) (mvT hZ (hw _ (List.mem_of_getElem? (i := 13) rfl))) (mvT hZ (hw _ (List.mem_of_getElem? (i := 14) rfl))) (by decide) (backOf (W := 0) (rm3 l Z a0 hw [] (Int32.ofNat fn) (Int32.ofNat tn) (4 : Int32) h0 n0 Z0 (own_nn (by omega)) (fun q => by have := (own_lt (by omega) (by omega)).mp q; omega) (fun q => by have := (own_lt (i := 4) (by omega) (by omega)).mp q; omega)) hZ (hw _ (List.mem_of_getElem? (i := 14) rfl)) (hw _ (List.mem_of_getElem? (i := 13) rfl)) (by decide) (by decide)) (g := (mkF m 33 #[.val (.ref a1), .val (.int p2), .val (.ref a3), .val (.int (Int32.ofNat fn)), .val (.int (Int32.ofNat tn)), .val (.int p6), .unset] [(.int (4 : Int32)), (.int (Int32.ofNat tn)), (.int (Int32.ofNat fn))])) rfl (by rw [hml]; rfl) (argsL := [(.int (Int32.ofNat fn)), (.int (Int32.ofNat tn)), (.int (4 : Int32))]) (rest := []) (lenOf pd_1 rfl) rfl (by show 2 * 0 + _ ≤ _; exact Nat.le_of_eq rfl) (hb hby d1_33) (fun _ _ => ⟨rfl, e1, (by decide : 0 + 0 ≤ _), (by decide : 0 + 0 ≤ _)⟩)
  dsimp only [Pt.U, Pt.locs, Pt.cells, Pt.slots] at X3 l3 y3 z3 st3 hQ3
  subst l3 y3 z3
  obtain ⟨rfl, N3q, e3⟩ := hQ3
  have N4 := Fr.app N0 N3q
  refine Go.via (S' := T3.setTop (mkF m 36 #[.val (.ref a1), .val (.int p2), .val (.ref a3), .val (.int (Int32.ofNat fn)), .val (.int (Int32.ofNat tn)), .val (.int p6), .unset] [(.int (Int32.ofNat fn))])) (fun _ k => st3 _ k) ?_
  refine Go.via (S' := T3.setTop (mkF m 37 #[.val (.ref a1), .val (.int p2), .val (.ref a3), .val (.int (Int32.ofNat fn)), .val (.int (Int32.ofNat tn)), .val (.int p6), .unset] [])) (fun _ k => XS.pop X3.here hx rfl (hb hby d1_36) rfl rfl k) ?_
  refine Go.via (S' := T3.setTop (mkF m 39 #[.val (.ref a1), .val (.int p2), .val (.ref a3), .val (.int (Int32.ofNat fn)), .val (.int (Int32.ofNat tn)), .val (.int p6), .unset] [(.int (Int32.ofNat tn))])) (fun _ k => XS.iload X3.here hx rfl (hb hby d1_37) rfl k) ?_
  refine Go.via (S' := T3.setTop (mkF m 40 #[.val (.ref a1), .val (.int p2), .val (.ref a3), .val (.int (Int32.ofNat fn)), .val (.int (Int32.ofNat tn)), .val (.int p6), .unset] [(.int (Int32.ofNat fn)), (.int (Int32.ofNat tn))])) (fun _ k => XS.iloadN X3.here hx rfl (hb hby d1_39) rfl k) ?_
  refine Go.via (S' := T3.setTop (mkF m 41 #[.val (.ref a1), .val (.int p2), .val (.ref a3), .val (.int (Int32.ofNat fn)), .val (.int (Int32.ofNat tn)), .val (.int p6), .unset] [(.int ((Int32.ofNat tn) - (Int32.ofNat fn)))])) (fun _ k => XS.isub X3.here hx rfl (hb hby d1_40) rfl k) ?_
  rw [show (Int32.ofNat tn) - (Int32.ofNat fn) = Int32.ofNat (tn - fn) from own_sub hft.1]
  refine Go.via (S' := T3.setTop (mkF m 43 #[.val (.ref a1), .val (.int p2), .val (.ref a3), .val (.int (Int32.ofNat fn)), .val (.int (Int32.ofNat tn)), .val (.int p6), .unset] [(.int (63993 : Int32)), (.int (Int32.ofNat (tn - fn)))])) (fun _ k => X3.ldcInt hx hown (mvT hZ (hw _ (List.mem_of_getElem? (i := 19) rfl))) (g := (mkF m 41 #[.val (.ref a1), .val (.int p2), .val (.ref a3), .val (.int (Int32.ofNat fn)), .val (.int (Int32.ofNat tn)), .val (.int p6), .unset] [(.int (Int32.ofNat (tn - fn)))])) rfl (hb hby d1_41) _ k) ?_
  refine Go.via (S' := T3.setTop (mkF m 63 #[.val (.ref a1), .val (.int p2), .val (.ref a3), .val (.int (Int32.ofNat fn)), .val (.int (Int32.ofNat tn)), .val (.int p6), .unset] [])) (fun _ k => XS.icmpYes X3.here hx rfl (pc0 := 43) (pc' := 63) rfl (hb hby d1_43) rfl (flt (fun q => by have := (own_lt (i := 63993) (by omega) (by omega)).mp q; omega)).2.2.2 (by decide) (by decide) k) ?_
  refine Go.via (S' := T3.setTop (mkF m 65 #[.val (.ref a1), .val (.int p2), .val (.ref a3), .val (.int (Int32.ofNat fn)), .val (.int (Int32.ofNat tn)), .val (.int p6), .unset] [(.int (Int32.ofNat tn))])) (fun _ k => XS.iload X3.here hx rfl (hb hby d1_63) rfl k) ?_
  refine Go.via (S' := T3.setTop (mkF m 66 #[.val (.ref a1), .val (.int p2), .val (.ref a3), .val (.int (Int32.ofNat fn)), .val (.int (Int32.ofNat tn)), .val (.int p6), .unset] [(.int (Int32.ofNat fn)), (.int (Int32.ofNat tn))])) (fun _ k => XS.iloadN X3.here hx rfl (hb hby d1_65) rfl k) ?_
  refine Go.via (S' := T3.setTop (mkF m 67 #[.val (.ref a1), .val (.int p2), .val (.ref a3), .val (.int (Int32.ofNat fn)), .val (.int (Int32.ofNat tn)), .val (.int p6), .unset] [(.int ((Int32.ofNat tn) - (Int32.ofNat fn)))])) (fun _ k => XS.isub X3.here hx rfl (hb hby d1_66) rfl k) ?_
  rw [show (Int32.ofNat tn) - (Int32.ofNat fn) = Int32.ofNat (tn - fn) from own_sub hft.1]
  refine Go.via (S' := T3.setTop (mkF m 69 #[.val (.ref a1), .val (.int p2), .val (.ref a3), .val (.int (Int32.ofNat fn)), .val (.int (Int32.ofNat tn)), .val (.int p6), .unset] [(.int (7 : Int32)), (.int (Int32.ofNat (tn - fn)))])) (fun _ k => XS.bipush X3.here hx rfl (hb hby d1_67) k) ?_
  refine Go.via (S' := T3.setTop (mkF m 70 #[.val (.ref a1), .val (.int p2), .val (.ref a3), .val (.int (Int32.ofNat fn)), .val (.int (Int32.ofNat tn)), .val (.int p6), .unset] [(.int ((Int32.ofNat (tn - fn)) + (7 : Int32)))])) (fun _ k => XS.iadd X3.here hx rfl (hb hby d1_69) rfl k) ?_
  obtain ⟨nn, hnn⟩ : ∃ nn, nn = tn - fn + 7 := ⟨_, rfl⟩
  rw [show (Int32.ofNat (tn - fn)) + (7 : Int32) = Int32.ofNat nn by rw [hnn]; exact own_add _ 7]
  refine Go.via (S' := T3.setTop (mkF m 72 #[.val (.ref a1), .val (.int p2), .val (.ref a3), .val (.int (Int32.ofNat fn)), .val (.int (Int32.ofNat tn)), .val (.int p6), .val (.int (Int32.ofNat nn))] [])) (fun _ k => XS.istore X3.here hx rfl (hb hby d1_70) rfl (l' := #[.val (.ref a1), .val (.int p2), .val (.ref a3), .val (.int (Int32.ofNat fn)), .val (.int (Int32.ofNat tn)), .val (.int p6), .val (.int (Int32.ofNat nn))]) rfl k) ?_
  refine Go.via (S' := T3.setTop (mkF m 73 #[.val (.ref a1), .val (.int p2), .val (.ref a3), .val (.int (Int32.ofNat fn)), .val (.int (Int32.ofNat tn)), .val (.int p6), .val (.int (Int32.ofNat nn))] [(.ref a1)])) (fun _ k => XS.aloadN X3.here hx rfl (hb hby d1_72) rfl rfl k) ?_
  refine Go.via (S' := T3.setTop (mkF m 75 #[.val (.ref a1), .val (.int p2), .val (.ref a3), .val (.int (Int32.ofNat fn)), .val (.int (Int32.ofNat tn)), .val (.int p6), .val (.int (Int32.ofNat nn))] [(.int (Int32.ofNat nn)), (.ref a1)])) (fun _ k => XS.iload X3.here hx rfl (hb hby d1_73) rfl k) ?_
  obtain ⟨T5, h5, k5, X5, e5, E5, A5, st5⟩ := newP X3 hx hZ (hw _ (List.mem_of_getElem? (i := 0) rfl)) e3 (g := (mkF m 75 #[.val (.ref a1), .val (.int p2), .val (.ref a3), .val (.int (Int32.ofNat fn)), .val (.int (Int32.ofNat tn)), .val (.int p6), .val (.int (Int32.ofNat nn))] [(.int (Int32.ofNat nn)), (.ref a1)])) rfl (hb hby d1_75) rfl (own_nn (show nn < 2 ^ 31 by omega)) (cap := 11) (by rw [own_ncl (show nn < 2 ^ 31 by omega)]; omega) (by decide) (by decide) (by decide)
  obtain ⟨b5, g5⟩ : ∃ z, z = h0.size := ⟨_, rfl⟩
  rw [← g5] at A5 st5
  have ne6 : a1 ≠ b5 := Nat.ne_of_lt (Nat.lt_of_lt_of_le E1.lt (Nat.le_of_eq g5.symm))
  have ne7 : a3 ≠ b5 := Nat.ne_of_lt (Nat.lt_of_lt_of_le V3.lt (Nat.le_of_eq g5.symm))
  have g8 : n0 ≤ b5 := Nat.le_trans Z0 (Nat.le_of_eq g5.symm)
  have g9 : h0.size ≤ b5 := Nat.le_trans (Keep.refl h0 [a1]).1 (Nat.le_of_eq g5.symm)
  have f10 := E1.ext E5
  have f11 := F1.ext E5
  have f12 := V3.ext E5
  have f13 := X00.ext E5
  have z14 := Nat.le_trans Z0 E5.1
  have K15 := (Keep.refl h0 [a1]).ext E5
  have V16 : Arv Z h5 b5 k5 .byte (Int32.ofNat nn) [] (.int (0 : Int32)) := (Arv.new A5 (own_nn (show nn < 2 ^ 31 by omega)))
  refine Go.via (S' := T5.setTop (mkF m 77 #[.val (.ref a1), .val (.int p2), .val (.ref a3), .val (.int (Int32.ofNat fn)), .val (.int (Int32.ofNat tn)), .val (.int p6), .val (.int (Int32.ofNat nn))] [(.ref b5), (.ref a1)])) (fun _ k => st5 _ k) ?_
  have VI5 : own_BA Z h5 b5 nn (fun _ => 0) := by
    have q := own_BA.new A5
    rw [own_ncl (show nn < 2 ^ 31 by omega)] at q
    exact q
  obtain ⟨T17, h17, X17, e17, W17, st17⟩ := putF X5 hx hZ hown (host := "") (Or.inl (hw _ (List.mem_of_getElem? (i := 20) rfl))) Via.refl e5 f11 f10 (Or.inr ⟨(hw _ (List.mem_of_getElem? (i := 21) rfl)), rfl, hnm⟩) (hw _ (List.mem_of_getElem? (i := 3) rfl)) (ty := (.array .byte)) (by decide) rfl rfl (g := (mkF m 77 #[.val (.ref a1), .val (.int p2), .val (.ref a3), .val (.int (Int32.ofNat fn)), .val (.int (Int32.ofNat tn)), .val (.int p6), .val (.int (Int32.ofNat nn))] [(.ref b5), (.ref a1)])) rfl rfl (hb hby d1_77)
  have N18 := Fr.snoc X17 N4 g1
  have f19 := f10.wr W17
  have f20 := f11.same W17
  have f21 := f12.other W17 ne13
  have f22 := f13.wr W17 g1
  have f23 := VI5.other W17 (Ne.symm ne6)
  have z24 := Nat.le_trans z14 (Keep.of_wr W17).1
  have K25 := K15.wr W17 (Or.inl (List.mem_of_getElem? (i := 0) rfl))
  refine Go.via (S' := T17.setTop (mkF m 80 #[.val (.ref a1), .val (.int p2), .val (.ref a3), .val (.int (Int32.ofNat fn)), .val (.int (Int32.ofNat tn)), .val (.int p6), .val (.int (Int32.ofNat nn))] [])) (fun _ k => st17 _ k) ?_
  refine Go.via (S' := T17.setTop (mkF m 81 #[.val (.ref a1), .val (.int p2), .val (.ref a3), .val (.int (Int32.ofNat fn)), .val (.int (Int32.ofNat tn)), .val (.int p6), .val (.int (Int32.ofNat nn))] [(.ref a1)])) (fun _ k => XS.aloadN X17.here hx rfl (hb hby d1_80) rfl rfl k) ?_
  obtain ⟨T26, X26, e26, st26⟩ := getF X17 hx hZ hown (host := "") (Or.inl (hw _ (List.mem_of_getElem? (i := 20) rfl))) Via.refl e17 f20 (g := (mkF m 81 #[.val (.ref a1), .val (.int p2), .val (.ref a3), .val (.int (Int32.ofNat fn)), .val (.int (Int32.ofNat tn)), .val (.int p6), .val (.int (Int32.ofNat nn))] [(.ref a1)])) rfl rfl (hb hby d1_81)
  refine Go.via (S' := T26.setTop (mkF m 84 #[.val (.ref a1), .val (.int p2), .val (.ref a3), .val (.int (Int32.ofNat fn)), .val (.int (Int32.ofNat tn)), .val (.int p6), .val (.int (Int32.ofNat nn))] [(.ref b5)])) (fun _ k => st26 _ k) ?_
  refine Go.via (S' := T26.setTop (mkF m 85 #[.val (.ref a1), .val (.int p2), .val (.ref a3), .val (.int (Int32.ofNat fn)), .val (.int (Int32.ofNat tn)), .val (.int p6), .val (.int (Int32.ofNat nn))] [(.int (0 : Int32)), (.ref b5)])) (fun _ k => XS.iconst X26.here hx rfl (hb hby d1_84) k) ?_
  refine Go.via (S' := T26.setTop (mkF m 86 #[.val (.ref a1), .val (.int p2), .val (.ref a3), .val (.int (Int32.ofNat fn)), .val (.int (Int32.ofNat tn)), .val (.int p6), .val (.int (Int32.ofNat nn))] [(.int (2 : Int32)), (.int (0 : Int32)), (.ref b5)])) (fun _ k => XS.iconst X26.here hx rfl (hb hby d1_85) k) ?_
  obtain ⟨c27, Ar27, S27, H27, G27⟩ := id f23
  have in27 : ¬ ((0 : Int32) < 0 ∨ c27.slots.size ≤ ((0 : Int32)).toNatClampNeg) := by
    show ¬ (Int32.ofNat 0 < 0 ∨ c27.slots.size ≤ (Int32.ofNat 0).toNatClampNeg)
    rw [S27, own_ncl (show 0 < 2 ^ 31 by omega)]
    exact fun q => q.elim (own_nn (show 0 < 2 ^ 31 by omega)) (Nat.not_le.mpr (show 0 < nn by omega))
  obtain ⟨T27, h27, X27, e27, W27, st27⟩ := stB X26 hx hZ e26 Ar27 (j := (0 : Int32)) in27 (g := (mkF m 86 #[.val (.ref a1), .val (.int p2), .val (.ref a3), .val (.int (Int32.ofNat fn)), .val (.int (Int32.ofNat tn)), .val (.int p6), .val (.int (Int32.ofNat nn))] [(.int (2 : Int32)), (.int (0 : Int32)), (.ref b5)])) rfl rfl (hb hby d1_86)
  have N28 := Fr.snoc X27 N18 g8
  have Wn27 : Wr _ _ _ (Int32.ofNat 0).toNatClampNeg _ := W27
  rw [own_ncl (show 0 < 2 ^ 31 by omega)] at Wn27
  have V27 := own_BA.set Ar27 S27 H27 G27 Wn27 (show 0 < nn by omega)
  have f29 := f19.wr W27
  have f30 := f20.other W27 (Or.inl ne6)
  have f31 := f21.other W27 ne7
  have f32 := f22.wr W27 g8
  have z33 := Nat.le_trans z24 (Keep.of_wr W27).1
  have K34 := K25.wr W27 (Or.inr g9)
  refine Go.via (S' := T27.setTop (mkF m 87 #[.val (.ref a1), .val (.int p2), .val (.ref a3), .val (.int (Int32.ofNat fn)), .val (.int (Int32.ofNat tn)), .val (.int p6), .val (.int (Int32.ofNat nn))] [])) (fun _ k => st27 _ k) ?_
  refine Go.via (S' := T27.setTop (mkF m 88 #[.val (.ref a1), .val (.int p2), .val (.ref a3), .val (.int (Int32.ofNat fn)), .val (.int (Int32.ofNat tn)), .val (.int p6), .val (.int (Int32.ofNat nn))] [(.ref a1)])) (fun _ k => XS.aloadN X27.here hx rfl (hb hby d1_87) rfl rfl k) ?_
  obtain ⟨T35, X35, e35, st35⟩ := getF X27 hx hZ hown (host := "") (Or.inl (hw _ (List.mem_of_getElem? (i := 20) rfl))) Via.refl e27 f30 (g := (mkF m 88 #[.val (.ref a1), .val (.int p2), .val (.ref a3), .val (.int (Int32.ofNat fn)), .val (.int (Int32.ofNat tn)), .val (.int p6), .val (.int (Int32.ofNat nn))] [(.ref a1)])) rfl rfl (hb hby d1_88)
  refine Go.via (S' := T35.setTop (mkF m 91 #[.val (.ref a1), .val (.int p2), .val (.ref a3), .val (.int (Int32.ofNat fn)), .val (.int (Int32.ofNat tn)), .val (.int p6), .val (.int (Int32.ofNat nn))] [(.ref b5)])) (fun _ k => st35 _ k) ?_
  refine Go.via (S' := T35.setTop (mkF m 92 #[.val (.ref a1), .val (.int p2), .val (.ref a3), .val (.int (Int32.ofNat fn)), .val (.int (Int32.ofNat tn)), .val (.int p6), .val (.int (Int32.ofNat nn))] [(.int (1 : Int32)), (.ref b5)])) (fun _ k => XS.iconst X35.here hx rfl (hb hby d1_91) k) ?_
  refine Go.via (S' := T35.setTop (mkF m 94 #[.val (.ref a1), .val (.int p2), .val (.ref a3), .val (.int (Int32.ofNat fn)), .val (.int (Int32.ofNat tn)), .val (.int p6), .val (.int (Int32.ofNat nn))] [(.int (48 : Int32)), (.int (1 : Int32)), (.ref b5)])) (fun _ k => XS.bipush X35.here hx rfl (hb hby d1_92) k) ?_
  refine Go.via (S' := T35.setTop (mkF m 95 #[.val (.ref a1), .val (.int p2), .val (.ref a3), .val (.int (Int32.ofNat fn)), .val (.int (Int32.ofNat tn)), .val (.int p6), .val (.int (Int32.ofNat nn))] [(.int p2), (.int (48 : Int32)), (.int (1 : Int32)), (.ref b5)])) (fun _ k => XS.iloadN X35.here hx rfl (hb hby d1_94) rfl k) ?_
  refine Go.via (S' := T35.setTop (mkF m 96 #[.val (.ref a1), .val (.int p2), .val (.ref a3), .val (.int (Int32.ofNat fn)), .val (.int (Int32.ofNat tn)), .val (.int p6), .val (.int (Int32.ofNat nn))] [(.int ((48 : Int32) + p2)), (.int (1 : Int32)), (.ref b5)])) (fun _ k => XS.iadd X35.here hx rfl (hb hby d1_95) rfl k) ?_
  refine Go.via (S' := T35.setTop (mkF m 97 #[.val (.ref a1), .val (.int p2), .val (.ref a3), .val (.int (Int32.ofNat fn)), .val (.int (Int32.ofNat tn)), .val (.int p6), .val (.int (Int32.ofNat nn))] [(.int (((48 : Int32) + p2).toInt8.toInt32)), (.int (1 : Int32)), (.ref b5)])) (fun _ k => XS.i2b X35.here hx rfl (hb hby d1_96) rfl k) ?_
  obtain ⟨c36, Ar36, S36, H36, G36⟩ := id V27
  have in36 : ¬ ((1 : Int32) < 0 ∨ c36.slots.size ≤ ((1 : Int32)).toNatClampNeg) := by
    show ¬ (Int32.ofNat 1 < 0 ∨ c36.slots.size ≤ (Int32.ofNat 1).toNatClampNeg)
    rw [S36, own_ncl (show 1 < 2 ^ 31 by omega)]
    exact fun q => q.elim (own_nn (show 1 < 2 ^ 31 by omega)) (Nat.not_le.mpr (show 1 < nn by omega))
  obtain ⟨T36, h36, X36, e36, W36, st36⟩ := stB X35 hx hZ e35 Ar36 (j := (1 : Int32)) in36 (g := (mkF m 97 #[.val (.ref a1), .val (.int p2), .val (.ref a3), .val (.int (Int32.ofNat fn)), .val (.int (Int32.ofNat tn)), .val (.int p6), .val (.int (Int32.ofNat nn))] [(.int (((48 : Int32) + p2).toInt8.toInt32)), (.int (1 : Int32)), (.ref b5)])) rfl rfl (hb hby d1_97)
  have N37 := Fr.snoc X36 N28 g8
  have Wn36 : Wr _ _ _ (Int32.ofNat 1).toNatClampNeg _ := W36
  rw [own_ncl (show 1 < 2 ^ 31 by omega)] at Wn36
  have V36 := own_BA.set Ar36 S36 H36 G36 Wn36 (show 1 < nn by omega)
  have f38 := f29.wr W36
  have f39 := f30.other W36 (Or.inl ne6)
  have f40 := f31.other W36 ne7
  have f41 := f32.wr W36 g8
  have z42 := Nat.le_trans z33 (Keep.of_wr W36).1
  have K43 := K34.wr W36 (Or.inr g9)
  refine Go.via (S' := T36.setTop (mkF m 98 #[.val (.ref a1), .val (.int p2), .val (.ref a3), .val (.int (Int32.ofNat fn)), .val (.int (Int32.ofNat tn)), .val (.int p6), .val (.int (Int32.ofNat nn))] [])) (fun _ k => st36 _ k) ?_
  refine Go.via (S' := T36.setTop (mkF m 99 #[.val (.ref a1), .val (.int p2), .val (.ref a3), .val (.int (Int32.ofNat fn)), .val (.int (Int32.ofNat tn)), .val (.int p6), .val (.int (Int32.ofNat nn))] [(.ref a3)])) (fun _ k => XS.aloadN X36.here hx rfl (hb hby d1_98) rfl rfl k) ?_
  refine Go.via (S' := T36.setTop (mkF m 100 #[.val (.ref a1), .val (.int p2), .val (.ref a3), .val (.int (Int32.ofNat fn)), .val (.int (Int32.ofNat tn)), .val (.int p6), .val (.int (Int32.ofNat nn))] [(.int (Int32.ofNat fn)), (.ref a3)])) (fun _ k => XS.iloadN X36.here hx rfl (hb hby d1_99) rfl k) ?_
  refine Go.via (S' := T36.setTop (mkF m 101 #[.val (.ref a1), .val (.int p2), .val (.ref a3), .val (.int (Int32.ofNat fn)), .val (.int (Int32.ofNat tn)), .val (.int p6), .val (.int (Int32.ofNat nn))] [(.ref a1), (.int (Int32.ofNat fn)), (.ref a3)])) (fun _ k => XS.aloadN X36.here hx rfl (hb hby d1_100) rfl rfl k) ?_
  obtain ⟨T44, X44, e44, st44⟩ := getF X36 hx hZ hown (host := "") (Or.inl (hw _ (List.mem_of_getElem? (i := 20) rfl))) Via.refl e36 f39 (g := (mkF m 101 #[.val (.ref a1), .val (.int p2), .val (.ref a3), .val (.int (Int32.ofNat fn)), .val (.int (Int32.ofNat tn)), .val (.int p6), .val (.int (Int32.ofNat nn))] [(.ref a1), (.int (Int32.ofNat fn)), (.ref a3)])) rfl rfl (hb hby d1_101)
  refine Go.via (S' := T44.setTop (mkF m 104 #[.val (.ref a1), .val (.int p2), .val (.ref a3), .val (.int (Int32.ofNat fn)), .val (.int (Int32.ofNat tn)), .val (.int p6), .val (.int (Int32.ofNat nn))] [(.ref b5), (.int (Int32.ofNat fn)), (.ref a3)])) (fun _ k => st44 _ k) ?_
  refine Go.via (S' := T44.setTop (mkF m 105 #[.val (.ref a1), .val (.int p2), .val (.ref a3), .val (.int (Int32.ofNat fn)), .val (.int (Int32.ofNat tn)), .val (.int p6), .val (.int (Int32.ofNat nn))] [(.int (2 : Int32)), (.ref b5), (.int (Int32.ofNat fn)), (.ref a3)])) (fun _ k => XS.iconst X44.here hx rfl (hb hby d1_104) k) ?_
  refine Go.via (S' := T44.setTop (mkF m 107 #[.val (.ref a1), .val (.int p2), .val (.ref a3), .val (.int (Int32.ofNat fn)), .val (.int (Int32.ofNat tn)), .val (.int p6), .val (.int (Int32.ofNat nn))] [(.int (Int32.ofNat tn)), (.int (2 : Int32)), (.ref b5), (.int (Int32.ofNat fn)), (.ref a3)])) (fun _ k => XS.iload X44.here hx rfl (hb hby d1_105) rfl k) ?_
  refine Go.via (S' := T44.setTop (mkF m 108 #[.val (.ref a1), .val (.int p2), .val (.ref a3), .val (.int (Int32.ofNat fn)), .val (.int (Int32.ofNat tn)), .val (.int p6), .val (.int (Int32.ofNat nn))] [(.int (Int32.ofNat fn)), (.int (Int32.ofNat tn)), (.int (2 : Int32)), (.ref b5), (.int (Int32.ofNat fn)), (.ref a3)])) (fun _ k => XS.iloadN X44.here hx rfl (hb hby d1_107) rfl k) ?_
  refine Go.via (S' := T44.setTop (mkF m 109 #[.val (.ref a1), .val (.int p2), .val (.ref a3), .val (.int (Int32.ofNat fn)), .val (.int (Int32.ofNat tn)), .val (.int p6), .val (.int (Int32.ofNat nn))] [(.int ((Int32.ofNat tn) - (Int32.ofNat fn))), (.int (2 : Int32)), (.ref b5), (.int (Int32.ofNat fn)), (.ref a3)])) (fun _ k => XS.isub X44.here hx rfl (hb hby d1_108) rfl k) ?_
  rw [show (Int32.ofNat tn) - (Int32.ofNat fn) = Int32.ofNat (tn - fn) from own_sub hft.1]
  obtain ⟨ka45, Aa45⟩ := f40.arv (by decide)
  obtain ⟨kb45, Ab45⟩ := V36.arv (show nn < 2 ^ 31 by omega)
  obtain ⟨T45, h45, L45, X45, e45, N45, K45, V45, st45⟩ := cpA X44 hx hZ hown (hw _ (List.mem_of_getElem? (i := 22) rfl)) (hw _ (List.mem_of_getElem? (i := 25) rfl)) (hw _ (List.mem_of_getElem? (i := 23) rfl)) (hw _ (List.mem_of_getElem? (i := 24) rfl)) e44 Aa45 Ab45 (Or.inl ⟨rfl, rfl⟩) (own_nn (by omega)) (by decide) (own_nn (by omega)) (by rw [own_ncl (by omega), own_ncl (by omega)]; show fn + (tn - fn) ≤ 4; omega) (by rw [own_ncl (by omega), own_ncl (by omega)]; show 2 + (tn - fn) ≤ nn; omega) rfl (by rw [own_ncl (by omega)]; simp only [List.length_map, List.length_range]; show 2 + (tn - fn) ≤ nn; omega) N37 g8 (g := (mkF m 109 #[.val (.ref a1), .val (.int p2), .val (.ref a3), .val (.int (Int32.ofNat fn)), .val (.int (Int32.ofNat tn)), .val (.int p6), .val (.int (Int32.ofNat nn))] [(.int (Int32.ofNat (tn - fn))), (.int (2 : Int32)), (.ref b5), (.int (Int32.ofNat fn)), (.ref a3)])) rfl (by rw [hml]; rfl) rfl (hb hby d1_109) (by decide) (W := 0) (by show 2 * 0 + _ ≤ _; exact Nat.le_of_eq rfl) (by decide)
  have f46 := f38.keep K45
  have f47 := f39.keep K45 (ninS ne6 nin0)
  have f48 := f40.keep K45 (ninS ne7 nin0)
  have f49 := f41.keep K45 (allS g8 all0)
  have z50 := Nat.le_trans z42 K45.1
  have K51 := K43.trans K45 (allS (Or.inr g9) all0)
  obtain ⟨fc45, Vc45⟩ := own_BA.of V45 (show nn < 2 ^ 31 by omega)
  refine Go.via (S' := T45.setTop (mkF m 112 #[.val (.ref a1), .val (.int p2), .val (.ref a3), .val (.int (Int32.ofNat fn)), .val (.int (Int32.ofNat tn)), .val (.int p6), .val (.int (Int32.ofNat nn))] [])) (fun _ k => st45 _ k) ?_
  refine Go.via (S' := T45.setTop (mkF m 113 #[.val (.ref a1), .val (.int p2), .val (.ref a3), .val (.int (Int32.ofNat fn)), .val (.int (Int32.ofNat tn)), .val (.int p6), .val (.int (Int32.ofNat nn))] [(.ref a1)])) (fun _ k => XS.aloadN X45.here hx rfl (hb hby d1_112) rfl rfl k) ?_
  obtain ⟨T52, X52, e52, st52⟩ := getF X45 hx hZ hown (host := "") (Or.inl (hw _ (List.mem_of_getElem? (i := 20) rfl))) Via.refl e45 f47 (g := (mkF m 113 #[.val (.ref a1), .val (.int p2), .val (.ref a3), .val (.int (Int32.ofNat fn)), .val (.int (Int32.ofNat tn)), .val (.int p6), .val (.int (Int32.ofNat nn))] [(.ref a1)])) rfl rfl (hb hby d1_113)
  refine Go.via (S' := T52.setTop (mkF m 116 #[.val (.ref a1), .val (.int p2), .val (.ref a3), .val (.int (Int32.ofNat fn)), .val (.int (Int32.ofNat tn)), .val (.int p6), .val (.int (Int32.ofNat nn))] [(.ref b5)])) (fun _ k => st52 _ k) ?_
  refine Go.via (S' := T52.setTop (mkF m 118 #[.val (.ref a1), .val (.int p2), .val (.ref a3), .val (.int (Int32.ofNat fn)), .val (.int (Int32.ofNat tn)), .val (.int p6), .val (.int (Int32.ofNat nn))] [(.int (Int32.ofNat nn)), (.ref b5)])) (fun _ k => XS.iload X52.here hx rfl (hb hby d1_116) rfl k) ?_
  refine Go.via (S' := T52.setTop (mkF m 119 #[.val (.ref a1), .val (.int p2), .val (.ref a3), .val (.int (Int32.ofNat fn)), .val (.int (Int32.ofNat tn)), .val (.int p6), .val (.int (Int32.ofNat nn))] [(.int (5 : Int32)), (.int (Int32.ofNat nn)), (.ref b5)])) (fun _ k => XS.iconst X52.here hx rfl (hb hby d1_118) k) ?_
  refine Go.via (S' := T52.setTop (mkF m 120 #[.val (.ref a1), .val (.int p2), .val (.ref a3), .val (.int (Int32.ofNat fn)), .val (.int (Int32.ofNat tn)), .val (.int p6), .val (.int (Int32.ofNat nn))] [(.int ((Int32.ofNat nn) - (5 : Int32))), (.ref b5)])) (fun _ k => XS.isub X52.here hx rfl (hb hby d1_119) rfl k) ?_
  rw [show (Int32.ofNat nn) - (5 : Int32) = Int32.ofNat (nn - 5) from own_sub (i := nn) (k := 5) (by omega)]
  refine Go.via (S' := T52.setTop (mkF m 122 #[.val (.ref a1), .val (.int p2), .val (.ref a3), .val (.int (Int32.ofNat fn)), .val (.int (Int32.ofNat tn)), .val (.int p6), .val (.int (Int32.ofNat nn))] [(.int p6), (.int (Int32.ofNat (nn - 5))), (.ref b5)])) (fun _ k => XS.iload X52.here hx rfl (hb hby d1_120) rfl k) ?_
  rcases Decidable.em (p6 = (0 : Int32)) with hc122 | hc122
  · refine Go.via (S' := T52.setTop (mkF m 130 #[.val (.ref a1), .val (.int p2), .val (.ref a3), .val (.int (Int32.ofNat fn)), .val (.int (Int32.ofNat tn)), .val (.int p6), .val (.int (Int32.ofNat nn))] [(.int (Int32.ofNat (nn - 5))), (.ref b5)])) (fun _ k => XS.ifYes X52.here hx rfl (pc0 := 122) (pc' := 130) rfl (hb hby d1_122) rfl ((if0 _ _).trans (teq hc122).1) (by decide) (by decide) k) ?_
    refine Go.via (S' := T52.setTop (mkF m 131 #[.val (.ref a1), .val (.int p2), .val (.ref a3), .val (.int (Int32.ofNat fn)), .val (.int (Int32.ofNat tn)), .val (.int p6), .val (.int (Int32.ofNat nn))] [(.int (3 : Int32)), (.int (Int32.ofNat (nn - 5))), (.ref b5)])) (fun _ k => XS.iconst X52.here hx rfl (hb hby d1_130) k) ?_
    refine Go.via (S' := T52.setTop (mkF m 132 #[.val (.ref a1), .val (.int p2), .val (.ref a3), .val (.int (Int32.ofNat fn)), .val (.int (Int32.ofNat tn)), .val (.int p6), .val (.int (Int32.ofNat nn))] [(.int ((3 : Int32).toInt8.toInt32)), (.int (Int32.ofNat (nn - 5))), (.ref b5)])) (fun _ k => XS.i2b X52.here hx rfl (hb hby d1_131) rfl k) ?_
    obtain ⟨c53, Ar53, S53, H53, G53⟩ := id Vc45
    have in53 : ¬ ((Int32.ofNat (nn - 5)) < 0 ∨ c53.slots.size ≤ ((Int32.ofNat (nn - 5))).toNatClampNeg) := by
      show ¬ (Int32.ofNat (nn - 5) < 0 ∨ c53.slots.size ≤ (Int32.ofNat (nn - 5)).toNatClampNeg)
      rw [S53, own_ncl (show (nn - 5) < 2 ^ 31 by omega)]
      exact fun q => q.elim (own_nn (show (nn - 5) < 2 ^ 31 by omega)) (Nat.not_le.mpr (show (nn - 5) < nn by omega))
    obtain ⟨T53, h53, X53, e53, W53, st53⟩ := stB X52 hx hZ e52 Ar53 (j := (Int32.ofNat (nn - 5))) in53 (g := (mkF m 132 #[.val (.ref a1), .val (.int p2), .val (.ref a3), .val (.int (Int32.ofNat fn)), .val (.int (Int32.ofNat tn)), .val (.int p6), .val (.int (Int32.ofNat nn))] [(.int ((3 : Int32).toInt8.toInt32)), (.int (Int32.ofNat (nn - 5))), (.ref b5)])) rfl rfl (hb hby d1_132)
    have N54 := Fr.snoc X53 N45 g8
    have Wn53 : Wr _ _ _ (Int32.ofNat (nn - 5)).toNatClampNeg _ := W53
    rw [own_ncl (show (nn - 5) < 2 ^ 31 by omega)] at Wn53
    have V53 := own_BA.set Ar53 S53 H53 G53 Wn53 (show (nn - 5) < nn by omega)
    have f55 := f46.wr W53
    have f56 := f47.other W53 (Or.inl ne6)
    have f57 := f48.other W53 ne7
    have f58 := f49.wr W53 g8
    have z59 := Nat.le_trans z50 (Keep.of_wr W53).1
    have K60 := K51.wr W53 (Or.inr g9)
    refine Go.via (S' := T53.setTop (mkF m 133 #[.val (.ref a1), .val (.int p2), .val (.ref a3), .val (.int (Int32.ofNat fn)), .val (.int (Int32.ofNat tn)), .val (.int p6), .val (.int (Int32.ofNat nn))] [])) (fun _ k => st53 _ k) ?_
    refine Go.via (S' := T53.setTop (mkF m 134 #[.val (.ref a1), .val (.int p2), .val (.ref a3), .val (.int (Int32.ofNat fn)), .val (.int (Int32.ofNat tn)), .val (.int p6), .val (.int (Int32.ofNat nn))] [(.ref a1)])) (fun _ k => XS.aloadN X53.here hx rfl (hb hby d1_133) rfl rfl k) ?_
    obtain ⟨T61, X61, e61, st61⟩ := getF X53 hx hZ hown (host := "") (Or.inl (hw _ (List.mem_of_getElem? (i := 20) rfl))) Via.refl e53 f56 (g := (mkF m 134 #[.val (.ref a1), .val (.int p2), .val (.ref a3), .val (.int (Int32.ofNat fn)), .val (.int (Int32.ofNat tn)), .val (.int p6), .val (.int (Int32.ofNat nn))] [(.ref a1)])) rfl rfl (hb hby d1_134)
    refine Go.via (S' := T61.setTop (mkF m 137 #[.val (.ref a1), .val (.int p2), .val (.ref a3), .val (.int (Int32.ofNat fn)), .val (.int (Int32.ofNat tn)), .val (.int p6), .val (.int (Int32.ofNat nn))] [(.ref b5)])) (fun _ k => st61 _ k) ?_
    refine Go.via (S' := T61.setTop (mkF m 138 #[.val (.ref a1), .val (.int p2), .val (.ref a3), .val (.int (Int32.ofNat fn)), .val (.int (Int32.ofNat tn)), .val (.int p6), .val (.int (Int32.ofNat nn))] [(.ref a1), (.ref b5)])) (fun _ k => XS.aloadN X61.here hx rfl (hb hby d1_137) rfl rfl k) ?_
    obtain ⟨T62, X62, e62, st62⟩ := getF X61 hx hZ hown (host := "") (Or.inl (hw _ (List.mem_of_getElem? (i := 20) rfl))) Via.refl e61 f56 (g := (mkF m 138 #[.val (.ref a1), .val (.int p2), .val (.ref a3), .val (.int (Int32.ofNat fn)), .val (.int (Int32.ofNat tn)), .val (.int p6), .val (.int (Int32.ofNat nn))] [(.ref a1), (.ref b5)])) rfl rfl (hb hby d1_138)
    refine Go.via (S' := T62.setTop (mkF m 141 #[.val (.ref a1), .val (.int p2), .val (.ref a3), .val (.int (Int32.ofNat fn)), .val (.int (Int32.ofNat tn)), .val (.int p6), .val (.int (Int32.ofNat nn))] [(.ref b5), (.ref b5)])) (fun _ k => st62 _ k) ?_
    refine Go.via (S' := T62.setTop (mkF m 143 #[.val (.ref a1), .val (.int p2), .val (.ref a3), .val (.int (Int32.ofNat fn)), .val (.int (Int32.ofNat tn)), .val (.int p6), .val (.int (Int32.ofNat nn))] [(.int (Int32.ofNat nn)), (.ref b5), (.ref b5)])) (fun _ k => XS.iload X62.here hx rfl (hb hby d1_141) rfl k) ?_
    obtain ⟨_, _, ⟨T63, L63, k63, n63⟩, -, X63, ⟨Lc63, hQ63, l63, y63, z63⟩, st63⟩ := Jvm.LawKit.callS X62 hx (y := (⟨"com/example/assayline/assayline/Frame", "checksum", "([BI)I"⟩ : MethodName)) hown (mvT hZ (hw _ (List.mem_of_getElem? (i := 26) rfl))) (mvT hZ (hw _ (List.mem_of_getElem? (i := 27) rfl))) (mvT hZ (hw _ (List.mem_of_getElem? (i := 4) rfl))) (mvT hZ (hw _ (List.mem_of_getElem? (i := 28) rfl))) (by decide) (backOf (W := 1) (rm5 l Z a0 hw [] b5 (Int32.ofNat nn) nn (fun i_ => if i_ = (nn - 5) then nar .byte ((3 : Int32).toInt8.toInt32) else fc45 i_) h53 n0 z59 V53 rfl ⟨by omega, by omega⟩) hZ (hw _ (List.mem_of_getElem? (i := 28) rfl)) (hw _ (List.mem_of_getElem? (i := 4) rfl)) (by decide) (by decide)) (g := (mkF m 143 #[.val (.ref a1), .val (.int p2), .val (.ref a3), .val (.int (Int32.ofNat fn)), .val (.int (Int32.ofNat tn)), .val (.int p6), .val (.int (Int32.ofNat nn))] [(.int (Int32.ofNat nn)), (.ref b5), (.ref b5)])) rfl (by rw [hml]; rfl) (argsL := [(.ref b5), (.int (Int32.ofNat nn))]) (rest := [(.ref b5)]) (lenOf pd_2 rfl) rfl (by show 2 * 0 + _ ≤ _; exact Nat.le_of_eq rfl) (hb hby d1_143) (fun _ _ => ⟨rfl, e62, (by decide : 1 + 0 ≤ _), (by decide : 11 + 0 ≤ _)⟩)
    dsimp only [Pt.U, Pt.locs, Pt.cells, Pt.slots] at X63 l63 y63 z63 st63 hQ63
    subst l63 y63 z63
    obtain ⟨r63, rfl, N63q, e63, hr63⟩ := hQ63
    have N64 := Fr.app N54 N63q
    refine Go.via (S' := T63.setTop (mkF m 146 #[.val (.ref a1), .val (.int p2), .val (.ref a3), .val (.int (Int32.ofNat fn)), .val (.int (Int32.ofNat tn)), .val (.int p6), .val (.int (Int32.ofNat nn))] [(.int r63), (.ref b5)])) (fun _ k => st63 _ k) ?_
    obtain ⟨_, _, ⟨T65, L65, k65, n65⟩, -, X65, ⟨Lc65, hQ65, l65, y65, z65⟩, st65⟩ := Jvm.LawKit.callS X63 hx (y := (⟨"com/example/assayline/assayline/Frame", "writeChecksum", "([BI)V"⟩ : MethodName)) hown (mvT hZ (hw _ (List.mem_of_getElem? (i := 29) rfl))) (mvT hZ (hw _ (List.mem_of_getElem? (i := 30) rfl))) (mvT hZ (hw _ (List.mem_of_getElem? (i := 4) rfl))) (mvT hZ (hw _ (List.mem_of_getElem? (i := 31) rfl))) (by decide) (backOf (W := 0) (rm6 l Z a0 hw [] b5 r63 nn (fun i_ => if i_ = (nn - 5) then nar .byte ((3 : Int32).toInt8.toInt32) else fc45 i_) hx_ cx_ h53 n0 z59 V53 ⟨by omega, by omega⟩ g8 hr63 f58 Sx Tx) hZ (hw _ (List.mem_of_getElem? (i := 31) rfl)) (hw _ (List.mem_of_getElem? (i := 4) rfl)) (by decide) (by decide)) (g := (mkF m 146 #[.val (.ref a1), .val (.int p2), .val (.ref a3), .val (.int (Int32.ofNat fn)), .val (.int (Int32.ofNat tn)), .val (.int p6), .val (.int (Int32.ofNat nn))] [(.int r63), (.ref b5)])) rfl (by rw [hml]; rfl) (argsL := [(.ref b5), (.int r63)]) (rest := []) (lenOf pd_3 rfl) rfl (by show 2 * 0 + _ ≤ _; exact Nat.le_of_eq rfl) (hb hby d1_146) (fun _ _ => ⟨rfl, e63, (by decide : 1 + 0 ≤ _), (by decide : 11 + 0 ≤ _)⟩)
    dsimp only [Pt.U, Pt.locs, Pt.cells, Pt.slots] at X65 l65 y65 z65 st65 hQ65
    subst l65 y65 z65
    obtain ⟨rfl, N65q, K65, g65, Vg65, hg65⟩ := hQ65
    have N66 := Fr.app N64 N65q
    have f67 := f55.keep K65
    have f68 := f56.keep K65 (ninS ne6 nin0)
    have f69 := f57.keep K65 (ninS ne7 nin0)
    have f70 := f58.keep K65 (allS g8 all0)
    have z71 := Nat.le_trans z59 K65.1
    have K72 := K60.trans K65 (allS (Or.inr g9) all0)
    refine Go.via (S' := T65.setTop (mkF m 149 #[.val (.ref a1), .val (.int p2), .val (.ref a3), .val (.int (Int32.ofNat fn)), .val (.int (Int32.ofNat tn)), .val (.int p6), .val (.int (Int32.ofNat nn))] [])) (fun _ k => st65 _ k) ?_
    refine Go.via (S' := T65.setTop (mkF m 150 #[.val (.ref a1), .val (.int p2), .val (.ref a3), .val (.int (Int32.ofNat fn)), .val (.int (Int32.ofNat tn)), .val (.int p6), .val (.int (Int32.ofNat nn))] [(.ref a1)])) (fun _ k => XS.aloadN X65.here hx rfl (hb hby d1_149) rfl rfl k) ?_
    obtain ⟨T73, X73, e73, st73⟩ := getF X65 hx hZ hown (host := "") (Or.inl (hw _ (List.mem_of_getElem? (i := 20) rfl))) Via.refl rfl f68 (g := (mkF m 150 #[.val (.ref a1), .val (.int p2), .val (.ref a3), .val (.int (Int32.ofNat fn)), .val (.int (Int32.ofNat tn)), .val (.int p6), .val (.int (Int32.ofNat nn))] [(.ref a1)])) rfl rfl (hb hby d1_150)
    refine Go.via (S' := T73.setTop (mkF m 153 #[.val (.ref a1), .val (.int p2), .val (.ref a3), .val (.int (Int32.ofNat fn)), .val (.int (Int32.ofNat tn)), .val (.int p6), .val (.int (Int32.ofNat nn))] [(.ref b5)])) (fun _ k => st73 _ k) ?_
    refine Go.via (S' := T73.setTop (mkF m 155 #[.val (.ref a1), .val (.int p2), .val (.ref a3), .val (.int (Int32.ofNat fn)), .val (.int (Int32.ofNat tn)), .val (.int p6), .val (.int (Int32.ofNat nn))] [(.int (Int32.ofNat nn)), (.ref b5)])) (fun _ k => XS.iload X73.here hx rfl (hb hby d1_153) rfl k) ?_
    refine Go.via (S' := T73.setTop (mkF m 156 #[.val (.ref a1), .val (.int p2), .val (.ref a3), .val (.int (Int32.ofNat fn)), .val (.int (Int32.ofNat tn)), .val (.int p6), .val (.int (Int32.ofNat nn))] [(.int (2 : Int32)), (.int (Int32.ofNat nn)), (.ref b5)])) (fun _ k => XS.iconst X73.here hx rfl (hb hby d1_155) k) ?_
    refine Go.via (S' := T73.setTop (mkF m 157 #[.val (.ref a1), .val (.int p2), .val (.ref a3), .val (.int (Int32.ofNat fn)), .val (.int (Int32.ofNat tn)), .val (.int p6), .val (.int (Int32.ofNat nn))] [(.int ((Int32.ofNat nn) - (2 : Int32))), (.ref b5)])) (fun _ k => XS.isub X73.here hx rfl (hb hby d1_156) rfl k) ?_
    rw [show (Int32.ofNat nn) - (2 : Int32) = Int32.ofNat (nn - 2) from own_sub (i := nn) (k := 2) (by omega)]
    refine Go.via (S' := T73.setTop (mkF m 159 #[.val (.ref a1), .val (.int p2), .val (.ref a3), .val (.int (Int32.ofNat fn)), .val (.int (Int32.ofNat tn)), .val (.int p6), .val (.int (Int32.ofNat nn))] [(.int (13 : Int32)), (.int (Int32.ofNat (nn - 2))), (.ref b5)])) (fun _ k => XS.bipush X73.here hx rfl (hb hby d1_157) k) ?_
    obtain ⟨c74, Ar74, S74, H74, G74⟩ := id Vg65
    have in74 : ¬ ((Int32.ofNat (nn - 2)) < 0 ∨ c74.slots.size ≤ ((Int32.ofNat (nn - 2))).toNatClampNeg) := by
      show ¬ (Int32.ofNat (nn - 2) < 0 ∨ c74.slots.size ≤ (Int32.ofNat (nn - 2)).toNatClampNeg)
      rw [S74, own_ncl (show (nn - 2) < 2 ^ 31 by omega)]
      exact fun q => q.elim (own_nn (show (nn - 2) < 2 ^ 31 by omega)) (Nat.not_le.mpr (show (nn - 2) < nn by omega))
    obtain ⟨T74, h74, X74, e74, W74, st74⟩ := stB X73 hx hZ e73 Ar74 (j := (Int32.ofNat (nn - 2))) in74 (g := (mkF m 159 #[.val (.ref a1), .val (.int p2), .val (.ref a3), .val (.int (Int32.ofNat fn)), .val (.int (Int32.ofNat tn)), .val (.int p6), .val (.int (Int32.ofNat nn))] [(.int (13 : Int32)), (.int (Int32.ofNat (nn - 2))), (.ref b5)])) rfl rfl (hb hby d1_159)
    have N75 := Fr.snoc X74 N66 g8
    have Wn74 : Wr _ _ _ (Int32.ofNat (nn - 2)).toNatClampNeg _ := W74
    rw [own_ncl (show (nn - 2) < 2 ^ 31 by omega)] at Wn74
    have V74 := own_BA.set Ar74 S74 H74 G74 Wn74 (show (nn - 2) < nn by omega)
    have f76 := f67.wr W74
    have f77 := f68.other W74 (Or.inl ne6)
    have f78 := f69.other W74 ne7
    have f79 := f70.wr W74 g8
    have z80 := Nat.le_trans z71 (Keep.of_wr W74).1
    have K81 := K72.wr W74 (Or.inr g9)
    refine Go.via (S' := T74.setTop (mkF m 160 #[.val (.ref a1), .val (.int p2), .val (.ref a3), .val (.int (Int32.ofNat fn)), .val (.int (Int32.ofNat tn)), .val (.int p6), .val (.int (Int32.ofNat nn))] [])) (fun _ k => st74 _ k) ?_
    refine Go.via (S' := T74.setTop (mkF m 161 #[.val (.ref a1), .val (.int p2), .val (.ref a3), .val (.int (Int32.ofNat fn)), .val (.int (Int32.ofNat tn)), .val (.int p6), .val (.int (Int32.ofNat nn))] [(.ref a1)])) (fun _ k => XS.aloadN X74.here hx rfl (hb hby d1_160) rfl rfl k) ?_
    obtain ⟨T82, X82, e82, st82⟩ := getF X74 hx hZ hown (host := "") (Or.inl (hw _ (List.mem_of_getElem? (i := 20) rfl))) Via.refl e74 f77 (g := (mkF m 161 #[.val (.ref a1), .val (.int p2), .val (.ref a3), .val (.int (Int32.ofNat fn)), .val (.int (Int32.ofNat tn)), .val (.int p6), .val (.int (Int32.ofNat nn))] [(.ref a1)])) rfl rfl (hb hby d1_161)
    refine Go.via (S' := T82.setTop (mkF m 164 #[.val (.ref a1), .val (.int p2), .val (.ref a3), .val (.int (Int32.ofNat fn)), .val (.int (Int32.ofNat tn)), .val (.int p6), .val (.int (Int32.ofNat nn))] [(.ref b5)])) (fun _ k => st82 _ k) ?_
    refine Go.via (S' := T82.setTop (mkF m 166 #[.val (.ref a1), .val (.int p2), .val (.ref a3), .val (.int (Int32.ofNat fn)), .val (.int (Int32.ofNat tn)), .val (.int p6), .val (.int (Int32.ofNat nn))] [(.int (Int32.ofNat nn)), (.ref b5)])) (fun _ k => XS.iload X82.here hx rfl (hb hby d1_164) rfl k) ?_
    refine Go.via (S' := T82.setTop (mkF m 167 #[.val (.ref a1), .val (.int p2), .val (.ref a3), .val (.int (Int32.ofNat fn)), .val (.int (Int32.ofNat tn)), .val (.int p6), .val (.int (Int32.ofNat nn))] [(.int (1 : Int32)), (.int (Int32.ofNat nn)), (.ref b5)])) (fun _ k => XS.iconst X82.here hx rfl (hb hby d1_166) k) ?_
    refine Go.via (S' := T82.setTop (mkF m 168 #[.val (.ref a1), .val (.int p2), .val (.ref a3), .val (.int (Int32.ofNat fn)), .val (.int (Int32.ofNat tn)), .val (.int p6), .val (.int (Int32.ofNat nn))] [(.int ((Int32.ofNat nn) - (1 : Int32))), (.ref b5)])) (fun _ k => XS.isub X82.here hx rfl (hb hby d1_167) rfl k) ?_
    rw [show (Int32.ofNat nn) - (1 : Int32) = Int32.ofNat (nn - 1) from own_sub (i := nn) (k := 1) (by omega)]
    refine Go.via (S' := T82.setTop (mkF m 170 #[.val (.ref a1), .val (.int p2), .val (.ref a3), .val (.int (Int32.ofNat fn)), .val (.int (Int32.ofNat tn)), .val (.int p6), .val (.int (Int32.ofNat nn))] [(.int (10 : Int32)), (.int (Int32.ofNat (nn - 1))), (.ref b5)])) (fun _ k => XS.bipush X82.here hx rfl (hb hby d1_168) k) ?_
    obtain ⟨c83, Ar83, S83, H83, G83⟩ := id V74
    have in83 : ¬ ((Int32.ofNat (nn - 1)) < 0 ∨ c83.slots.size ≤ ((Int32.ofNat (nn - 1))).toNatClampNeg) := by
      show ¬ (Int32.ofNat (nn - 1) < 0 ∨ c83.slots.size ≤ (Int32.ofNat (nn - 1)).toNatClampNeg)
      rw [S83, own_ncl (show (nn - 1) < 2 ^ 31 by omega)]
      exact fun q => q.elim (own_nn (show (nn - 1) < 2 ^ 31 by omega)) (Nat.not_le.mpr (show (nn - 1) < nn by omega))
    obtain ⟨T83, h83, X83, e83, W83, st83⟩ := stB X82 hx hZ e82 Ar83 (j := (Int32.ofNat (nn - 1))) in83 (g := (mkF m 170 #[.val (.ref a1), .val (.int p2), .val (.ref a3), .val (.int (Int32.ofNat fn)), .val (.int (Int32.ofNat tn)), .val (.int p6), .val (.int (Int32.ofNat nn))] [(.int (10 : Int32)), (.int (Int32.ofNat (nn - 1))), (.ref b5)])) rfl rfl (hb hby d1_170)
    have N84 := Fr.snoc X83 N75 g8
    have Wn83 : Wr _ _ _ (Int32.ofNat (nn - 1)).toNatClampNeg _ := W83
    rw [own_ncl (show (nn - 1) < 2 ^ 31 by omega)] at Wn83
    have V83 := own_BA.set Ar83 S83 H83 G83 Wn83 (show (nn - 1) < nn by omega)
    have f85 := f76.wr W83
    have f86 := f77.other W83 (Or.inl ne6)
    have f87 := f78.other W83 ne7
    have f88 := f79.wr W83 g8
    have z89 := Nat.le_trans z80 (Keep.of_wr W83).1
    have K90 := K81.wr W83 (Or.inr g9)
    refine Go.via (S' := T83.setTop (mkF m 171 #[.val (.ref a1), .val (.int p2), .val (.ref a3), .val (.int (Int32.ofNat fn)), .val (.int (Int32.ofNat tn)), .val (.int p6), .val (.int (Int32.ofNat nn))] [])) (fun _ k => st83 _ k) ?_
    exact Go.retV X83 hx (BodyLoose.notSynchronized Bd) Bd.returns (hb hby d1_171) (by rw [e83]; exact ⟨rfl, N84, K90, _, nn, _, f86, by omega, by omega, V83, Or.inl ⟨hc122, (by simp only [show ¬ nn - 5 = nn - 1 by omega, show ¬ nn - 5 = nn - 2 by omega, if_false]; rw [hg65 _ (by omega)]; simp only [if_true]; decide)⟩⟩) (by decide) (by decide)
  · refine Go.via (S' := T52.setTop (mkF m 125 #[.val (.ref a1), .val (.int p2), .val (.ref a3), .val (.int (Int32.ofNat fn)), .val (.int (Int32.ofNat tn)), .val (.int p6), .val (.int (Int32.ofNat nn))] [(.int (Int32.ofNat (nn - 5))), (.ref b5)])) (fun _ k => XS.ifNo X52.here hx rfl (hb hby d1_122) rfl ((if0 _ _).trans (feq hc122).1) k) ?_
    refine Go.via (S' := T52.setTop (mkF m 127 #[.val (.ref a1), .val (.int p2), .val (.ref a3), .val (.int (Int32.ofNat fn)), .val (.int (Int32.ofNat tn)), .val (.int p6), .val (.int (Int32.ofNat nn))] [(.int (23 : Int32)), (.int (Int32.ofNat (nn - 5))), (.ref b5)])) (fun _ k => XS.bipush X52.here hx rfl (hb hby d1_125) k) ?_
    refine Go.via (S' := T52.setTop (mkF m 131 #[.val (.ref a1), .val (.int p2), .val (.ref a3), .val (.int (Int32.ofNat fn)), .val (.int (Int32.ofNat tn)), .val (.int p6), .val (.int (Int32.ofNat nn))] [(.int (23 : Int32)), (.int (Int32.ofNat (nn - 5))), (.ref b5)])) (fun _ k => XS.goto X52.here hx rfl (pc0 := 127) (pc' := 131) rfl (hb hby d1_127) (by decide) (by decide) k) ?_
    refine Go.via (S' := T52.setTop (mkF m 132 #[.val (.ref a1), .val (.int p2), .val (.ref a3), .val (.int (Int32.ofNat fn)), .val (.int (Int32.ofNat tn)), .val (.int p6), .val (.int (Int32.ofNat nn))] [(.int ((23 : Int32).toInt8.toInt32)), (.int (Int32.ofNat (nn - 5))), (.ref b5)])) (fun _ k => XS.i2b X52.here hx rfl (hb hby d1_131) rfl k) ?_
    obtain ⟨c91, Ar91, S91, H91, G91⟩ := id Vc45
    have in91 : ¬ ((Int32.ofNat (nn - 5)) < 0 ∨ c91.slots.size ≤ ((Int32.ofNat (nn - 5))).toNatClampNeg) := by
      show ¬ (Int32.ofNat (nn - 5) < 0 ∨ c91.slots.size ≤ (Int32.ofNat (nn - 5)).toNatClampNeg)
      rw [S91, own_ncl (show (nn - 5) < 2 ^ 31 by omega)]
      exact fun q => q.elim (own_nn (show (nn - 5) < 2 ^ 31 by omega)) (Nat.not_le.mpr (show (nn - 5) < nn by omega))
    obtain ⟨T91, h91, X91, e91, W91, st91⟩ := stB X52 hx hZ e52 Ar91 (j := (Int32.ofNat (nn - 5))) in91 (g := (mkF m 132 #[.val (.ref a1), .val (.int p2), .val (.ref a3), .val (.int (Int32.ofNat fn)), .val (.int (Int32.ofNat tn)), .val (.int p6), .val (.int (Int32.ofNat nn))] [(.int ((23 : Int32).toInt8.toInt32)), (.int (Int32.ofNat (nn - 5))), (.ref b5)])) rfl rfl (hb hby d1_132)
    have N92 := Fr.snoc X91 N45 g8
    have Wn91 : Wr _ _ _ (Int32.ofNat (nn - 5)).toNatClampNeg _ := W91
    rw [own_ncl (show (nn - 5) < 2 ^ 31 by omega)] at Wn91
    have V91 := own_BA.set Ar91 S91 H91 G91 Wn91 (show (nn - 5) < nn by omega)
    have f93 := f46.wr W91
    have f94 := f47.other W91 (Or.inl ne6)
    have f95 := f48.other W91 ne7
    have f96 := f49.wr W91 g8
    have z97 := Nat.le_trans z50 (Keep.of_wr W91).1
    have K98 := K51.wr W91 (Or.inr g9)
    refine Go.via (S' := T91.setTop (mkF m 133 #[.val (.ref a1), .val (.int p2), .val (.ref a3), .val (.int (Int32.ofNat fn)), .val (.int (Int32.ofNat tn)), .val (.int p6), .val (.int (Int32.ofNat nn))] [])) (fun _ k => st91 _ k) ?_
    refine Go.via (S' := T91.setTop (mkF m 134 #[.val (.ref a1), .val (.int p2), .val (.ref a3), .val (.int (Int32.ofNat fn)), .val (.int (Int32.ofNat tn)), .val (.int p6), .val (.int (Int32.ofNat nn))] [(.ref a1)])) (fun _ k => XS.aloadN X91.here hx rfl (hb hby d1_133) rfl rfl k) ?_
    obtain ⟨T99, X99, e99, st99⟩ := getF X91 hx hZ hown (host := "") (Or.inl (hw _ (List.mem_of_getElem? (i := 20) rfl))) Via.refl e91 f94 (g := (mkF m 134 #[.val (.ref a1), .val (.int p2), .val (.ref a3), .val (.int (Int32.ofNat fn)), .val (.int (Int32.ofNat tn)), .val (.int p6), .val (.int (Int32.ofNat nn))] [(.ref a1)])) rfl rfl (hb hby d1_134)
    refine Go.via (S' := T99.setTop (mkF m 137 #[.val (.ref a1), .val (.int p2), .val (.ref a3), .val (.int (Int32.ofNat fn)), .val (.int (Int32.ofNat tn)), .val (.int p6), .val (.int (Int32.ofNat nn))] [(.ref b5)])) (fun _ k => st99 _ k) ?_
    refine Go.via (S' := T99.setTop (mkF m 138 #[.val (.ref a1), .val (.int p2), .val (.ref a3), .val (.int (Int32.ofNat fn)), .val (.int (Int32.ofNat tn)), .val (.int p6), .val (.int (Int32.ofNat nn))] [(.ref a1), (.ref b5)])) (fun _ k => XS.aloadN X99.here hx rfl (hb hby d1_137) rfl rfl k) ?_
    obtain ⟨T100, X100, e100, st100⟩ := getF X99 hx hZ hown (host := "") (Or.inl (hw _ (List.mem_of_getElem? (i := 20) rfl))) Via.refl e99 f94 (g := (mkF m 138 #[.val (.ref a1), .val (.int p2), .val (.ref a3), .val (.int (Int32.ofNat fn)), .val (.int (Int32.ofNat tn)), .val (.int p6), .val (.int (Int32.ofNat nn))] [(.ref a1), (.ref b5)])) rfl rfl (hb hby d1_138)
    refine Go.via (S' := T100.setTop (mkF m 141 #[.val (.ref a1), .val (.int p2), .val (.ref a3), .val (.int (Int32.ofNat fn)), .val (.int (Int32.ofNat tn)), .val (.int p6), .val (.int (Int32.ofNat nn))] [(.ref b5), (.ref b5)])) (fun _ k => st100 _ k) ?_
    refine Go.via (S' := T100.setTop (mkF m 143 #[.val (.ref a1), .val (.int p2), .val (.ref a3), .val (.int (Int32.ofNat fn)), .val (.int (Int32.ofNat tn)), .val (.int p6), .val (.int (Int32.ofNat nn))] [(.int (Int32.ofNat nn)), (.ref b5), (.ref b5)])) (fun _ k => XS.iload X100.here hx rfl (hb hby d1_141) rfl k) ?_
    obtain ⟨_, _, ⟨T101, L101, k101, n101⟩, -, X101, ⟨Lc101, hQ101, l101, y101, z101⟩, st101⟩ := Jvm.LawKit.callS X100 hx (y := (⟨"com/example/assayline/assayline/Frame", "checksum", "([BI)I"⟩ : MethodName)) hown (mvT hZ (hw _ (List.mem_of_getElem? (i := 26) rfl))) (mvT hZ (hw _ (List.mem_of_getElem? (i := 27) rfl))) (mvT hZ (hw _ (List.mem_of_getElem? (i := 4) rfl))) (mvT hZ (hw _ (List.mem_of_getElem? (i := 28) rfl))) (by decide) (backOf (W := 1) (rm5 l Z a0 hw [] b5 (Int32.ofNat nn) nn (fun i_ => if i_ = (nn - 5) then nar .byte ((23 : Int32).toInt8.toInt32) else fc45 i_) h91 n0 z97 V91 rfl ⟨by omega, by omega⟩) hZ (hw _ (List.mem_of_getElem? (i := 28) rfl)) (hw _ (List.mem_of_getElem? (i := 4) rfl)) (by decide) (by decide)) (g := (mkF m 143 #[.val (.ref a1), .val (.int p2), .val (.ref a3), .val (.int (Int32.ofNat fn)), .val (.int (Int32.ofNat tn)), .val (.int p6), .val (.int (Int32.ofNat nn))] [(.int (Int32.ofNat nn)), (.ref b5), (.ref b5)])) rfl (by rw [hml]; rfl) (argsL := [(.ref b5), (.int (Int32.ofNat nn))]) (rest := [(.ref b5)]) (lenOf pd_2 rfl) rfl (by show 2 * 0 + _ ≤ _; exact Nat.le_of_eq rfl) (hb hby d1_143) (fun _ _ => ⟨rfl, e100, (by decide : 1 + 0 ≤ _), (by decide : 11 + 0 ≤ _)⟩)
    dsimp only [Pt.U, Pt.locs, Pt.cells, Pt.slots] at X101 l101 y101 z101 st101 hQ101
    subst l101 y101 z101
    obtain ⟨r101, rfl, N101q, e101, hr101⟩ := hQ101
    have N102 := Fr.app N92 N101q
    refine Go.via (S' := T101.setTop (mkF m 146 #[.val (.ref a1), .val (.int p2), .val (.ref a3), .val (.int (Int32.ofNat fn)), .val (.int (Int32.ofNat tn)), .val (.int p6), .val (.int (Int32.ofNat nn))] [(.int r101), (.ref b5)])) (fun _ k => st101 _ k) ?_
    obtain ⟨_, _, ⟨T103, L103, k103, n103⟩, -, X103, ⟨Lc103, hQ103, l103, y103, z103⟩, st103⟩ := Jvm.LawKit.callS X101 hx (y := (⟨"com/example/assayline/assayline/Frame", "writeChecksum", "([BI)V"⟩ : MethodName)) hown (mvT hZ (hw _ (List.mem_of_getElem? (i := 29) rfl))) (mvT hZ (hw _ (List.mem_of_getElem? (i := 30) rfl))) (mvT hZ (hw _ (List.mem_of_getElem? (i := 4) rfl))) (mvT hZ (hw _ (List.mem_of_getElem? (i := 31) rfl))) (by decide) (backOf (W := 0) (rm6 l Z a0 hw [] b5 r101 nn (fun i_ => if i_ = (nn - 5) then nar .byte ((23 : Int32).toInt8.toInt32) else fc45 i_) hx_ cx_ h91 n0 z97 V91 ⟨by omega, by omega⟩ g8 hr101 f96 Sx Tx) hZ (hw _ (List.mem_of_getElem? (i := 31) rfl)) (hw _ (List.mem_of_getElem? (i := 4) rfl)) (by decide) (by decide)) (g := (mkF m 146 #[.val (.ref a1), .val (.int p2), .val (.ref a3), .val (.int (Int32.ofNat fn)), .val (.int (Int32.ofNat tn)), .val (.int p6), .val (.int (Int32.ofNat nn))] [(.int r101), (.ref b5)])) rfl (by rw [hml]; rfl) (argsL := [(.ref b5), (.int r101)]) (rest := []) (lenOf pd_3 rfl) rfl (by show 2 * 0 + _ ≤ _; exact Nat.le_of_eq rfl) (hb hby d1_146) (fun _ _ => ⟨rfl, e101, (by decide : 1 + 0 ≤ _), (by decide : 11 + 0 ≤ _)⟩)
    dsimp only [Pt.U, Pt.locs, Pt.cells, Pt.slots] at X103 l103 y103 z103 st103 hQ103
    subst l103 y103 z103
    obtain ⟨rfl, N103q, K103, g103, Vg103, hg103⟩ := hQ103
    have N104 := Fr.app N102 N103q
    have f105 := f93.keep K103
    have f106 := f94.keep K103 (ninS ne6 nin0)
    have f107 := f95.keep K103 (ninS ne7 nin0)
    have f108 := f96.keep K103 (allS g8 all0)
    have z109 := Nat.le_trans z97 K103.1
    have K110 := K98.trans K103 (allS (Or.inr g9) all0)
    refine Go.via (S' := T103.setTop (mkF m 149 #[.val (.ref a1), .val (.int p2), .val (.ref a3), .val (.int (Int32.ofNat fn)), .val (.int (Int32.ofNat tn)), .val (.int p6), .val (.int (Int32.ofNat nn))] [])) (fun _ k => st103 _ k) ?_
    refine Go.via (S' := T103.setTop (mkF m 150 #[.val (.ref a1), .val (.int p2), .val (.ref a3), .val (.int (Int32.ofNat fn)), .val (.int (Int32.ofNat tn)), .val (.int p6), .val (.int (Int32.ofNat nn))] [(.ref a1)])) (fun _ k => XS.aloadN X103.here hx rfl (hb hby d1_149) rfl rfl k) ?_
    obtain ⟨T111, X111, e111, st111⟩ := getF X103 hx hZ hown (host := "") (Or.inl (hw _ (List.mem_of_getElem? (i := 20) rfl))) Via.refl rfl f106 (g := (mkF m 150 #[.val (.ref a1), .val (.int p2), .val (.ref a3), .val (.int (Int32.ofNat fn)), .val (.int (Int32.ofNat tn)), .val (.int p6), .val (.int (Int32.ofNat nn))] [(.ref a1)])) rfl rfl (hb hby d1_150)
    refine Go.via (S' := T111.setTop (mkF m 153 #[.val (.ref a1), .val (.int p2), .val (.ref a3), .val (.int (Int32.ofNat fn)), .val (.int (Int32.ofNat tn)), .val (.int p6), .val (.int (Int32.ofNat nn))] [(.ref b5)])) (fun _ k => st111 _ k) ?_
    refine Go.via (S' := T111.setTop (mkF m 155 #[.val (.ref a1), .val (.int p2), .val (.ref a3), .val (.int (Int32.ofNat fn)), .val (.int (Int32.ofNat tn)), .val (.int p6), .val (.int (Int32.ofNat nn))] [(.int (Int32.ofNat nn)), (.ref b5)])) (fun _ k => XS.iload X111.here hx rfl (hb hby d1_153) rfl k) ?_
    refine Go.via (S' := T111.setTop (mkF m 156 #[.val (.ref a1), .val (.int p2), .val (.ref a3), .val (.int (Int32.ofNat fn)), .val (.int (Int32.ofNat tn)), .val (.int p6), .val (.int (Int32.ofNat nn))] [(.int (2 : Int32)), (.int (Int32.ofNat nn)), (.ref b5)])) (fun _ k => XS.iconst X111.here hx rfl (hb hby d1_155) k) ?_
    refine Go.via (S' := T111.setTop (mkF m 157 #[.val (.ref a1), .val (.int p2), .val (.ref a3), .val (.int (Int32.ofNat fn)), .val (.int (Int32.ofNat tn)), .val (.int p6), .val (.int (Int32.ofNat nn))] [(.int ((Int32.ofNat nn) - (2 : Int32))), (.ref b5)])) (fun _ k => XS.isub X111.here hx rfl (hb hby d1_156) rfl k) ?_
    rw [show (Int32.ofNat nn) - (2 : Int32) = Int32.ofNat (nn - 2) from own_sub (i := nn) (k := 2) (by omega)]
    refine Go.via (S' := T111.setTop (mkF m 159 #[.val (.ref a1), .val (.int p2), .val (.ref a3), .val (.int (Int32.ofNat fn)), .val (.int (Int32.ofNat tn)), .val (.int p6), .val (.int (Int32.ofNat nn))] [(.int (13 : Int32)), (.int (Int32.ofNat (nn - 2))), (.ref b5)])) (fun _ k => XS.bipush X111.here hx rfl (hb hby d1_157) k) ?_
    obtain ⟨c112, Ar112, S112, H112, G112⟩ := id Vg103
    have in112 : ¬ ((Int32.ofNat (nn - 2)) < 0 ∨ c112.slots.size ≤ ((Int32.ofNat (nn - 2))).toNatClampNeg) := by
      show ¬ (Int32.ofNat (nn - 2) < 0 ∨ c112.slots.size ≤ (Int32.ofNat (nn - 2)).toNatClampNeg)
      rw [S112, own_ncl (show (nn - 2) < 2 ^ 31 by omega)]
      exact fun q => q.elim (own_nn (show (nn - 2) < 2 ^ 31 by omega)) (Nat.not_le.mpr (show (nn - 2) < nn by omega))
    obtain ⟨T112, h112, X112, e112, W112, st112⟩ := stB X111 hx hZ e111 Ar112 (j := (Int32.ofNat (nn - 2))) in112 (g := (mkF m 159 #[.val (.ref a1), .val (.int p2), .val (.ref a3), .val (.int (Int32.ofNat fn)), .val (.int (Int32.ofNat tn)), .val (.int p6), .val (.int (Int32.ofNat nn))] [(.int (13 : Int32)), (.int (Int32.ofNat (nn - 2))), (.ref b5)])) rfl rfl (hb hby d1_159)
    have N113 := Fr.snoc X112 N104 g8
    have Wn112 : Wr _ _ _ (Int32.ofNat (nn - 2)).toNatClampNeg _ := W112
    rw [own_ncl (show (nn - 2) < 2 ^ 31 by omega)] at Wn112
    have V112 := own_BA.set Ar112 S112 H112 G112 Wn112 (show (nn - 2) < nn by omega)
    have f114 := f105.wr W112
    have f115 := f106.other W112 (Or.inl ne6)
    have f116 := f107.other W112 ne7
    have f117 := f108.wr W112 g8
    have z118 := Nat.le_trans z109 (Keep.of_wr W112).1
    have K119 := K110.wr W112 (Or.inr g9)
    refine Go.via (S' := T112.setTop (mkF m 160 #[.val (.ref a1), .val (.int p2), .val (.ref a3), .val (.int (Int32.ofNat fn)), .val (.int (Int32.ofNat tn)), .val (.int p6), .val (.int (Int32.ofNat nn))] [])) (fun _ k => st112 _ k) ?_
    refine Go.via (S' := T112.setTop (mkF m 161 #[.val (.ref a1), .val (.int p2), .val (.ref a3), .val (.int (Int32.ofNat fn)), .val (.int (Int32.ofNat tn)), .val (.int p6), .val (.int (Int32.ofNat nn))] [(.ref a1)])) (fun _ k => XS.aloadN X112.here hx rfl (hb hby d1_160) rfl rfl k) ?_
    obtain ⟨T120, X120, e120, st120⟩ := getF X112 hx hZ hown (host := "") (Or.inl (hw _ (List.mem_of_getElem? (i := 20) rfl))) Via.refl e112 f115 (g := (mkF m 161 #[.val (.ref a1), .val (.int p2), .val (.ref a3), .val (.int (Int32.ofNat fn)), .val (.int (Int32.ofNat tn)), .val (.int p6), .val (.int (Int32.ofNat nn))] [(.ref a1)])) rfl rfl (hb hby d1_161)
    refine Go.via (S' := T120.setTop (mkF m 164 #[.val (.ref a1), .val (.int p2), .val (.ref a3), .val (.int (Int32.ofNat fn)), .val (.int (Int32.ofNat tn)), .val (.int p6), .val (.int (Int32.ofNat nn))] [(.ref b5)])) (fun _ k => st120 _ k) ?_
    refine Go.via (S' := T120.setTop (mkF m 166 #[.val (.ref a1), .val (.int p2), .val (.ref a3), .val (.int (Int32.ofNat fn)), .val (.int (Int32.ofNat tn)), .val (.int p6), .val (.int (Int32.ofNat nn))] [(.int (Int32.ofNat nn)), (.ref b5)])) (fun _ k => XS.iload X120.here hx rfl (hb hby d1_164) rfl k) ?_
    refine Go.via (S' := T120.setTop (mkF m 167 #[.val (.ref a1), .val (.int p2), .val (.ref a3), .val (.int (Int32.ofNat fn)), .val (.int (Int32.ofNat tn)), .val (.int p6), .val (.int (Int32.ofNat nn))] [(.int (1 : Int32)), (.int (Int32.ofNat nn)), (.ref b5)])) (fun _ k => XS.iconst X120.here hx rfl (hb hby d1_166) k) ?_
    refine Go.via (S' := T120.setTop (mkF m 168 #[.val (.ref a1), .val (.int p2), .val (.ref a3), .val (.int (Int32.ofNat fn)), .val (.int (Int32.ofNat tn)), .val (.int p6), .val (.int (Int32.ofNat nn))] [(.int ((Int32.ofNat nn) - (1 : Int32))), (.ref b5)])) (fun _ k => XS.isub X120.here hx rfl (hb hby d1_167) rfl k) ?_
    rw [show (Int32.ofNat nn) - (1 : Int32) = Int32.ofNat (nn - 1) from own_sub (i := nn) (k := 1) (by omega)]
    refine Go.via (S' := T120.setTop (mkF m 170 #[.val (.ref a1), .val (.int p2), .val (.ref a3), .val (.int (Int32.ofNat fn)), .val (.int (Int32.ofNat tn)), .val (.int p6), .val (.int (Int32.ofNat nn))] [(.int (10 : Int32)), (.int (Int32.ofNat (nn - 1))), (.ref b5)])) (fun _ k => XS.bipush X120.here hx rfl (hb hby d1_168) k) ?_
    obtain ⟨c121, Ar121, S121, H121, G121⟩ := id V112
    have in121 : ¬ ((Int32.ofNat (nn - 1)) < 0 ∨ c121.slots.size ≤ ((Int32.ofNat (nn - 1))).toNatClampNeg) := by
      show ¬ (Int32.ofNat (nn - 1) < 0 ∨ c121.slots.size ≤ (Int32.ofNat (nn - 1)).toNatClampNeg)
      rw [S121, own_ncl (show (nn - 1) < 2 ^ 31 by omega)]
      exact fun q => q.elim (own_nn (show (nn - 1) < 2 ^ 31 by omega)) (Nat.not_le.mpr (show (nn - 1) < nn by omega))
    obtain ⟨T121, h121, X121, e121, W121, st121⟩ := stB X120 hx hZ e120 Ar121 (j := (Int32.ofNat (nn - 1))) in121 (g := (mkF m 170 #[.val (.ref a1), .val (.int p2), .val (.ref a3), .val (.int (Int32.ofNat fn)), .val (.int (Int32.ofNat tn)), .val (.int p6), .val (.int (Int32.ofNat nn))] [(.int (10 : Int32)), (.int (Int32.ofNat (nn - 1))), (.ref b5)])) rfl rfl (hb hby d1_170)
    have N122 := Fr.snoc X121 N113 g8
    have Wn121 : Wr _ _ _ (Int32.ofNat (nn - 1)).toNatClampNeg _ := W121
    rw [own_ncl (show (nn - 1) < 2 ^ 31 by omega)] at Wn121
    have V121 := own_BA.set Ar121 S121 H121 G121 Wn121 (show (nn - 1) < nn by omega)
    have f123 := f114.wr W121
    have f124 := f115.other W121 (Or.inl ne6)
    have f125 := f116.other W121 ne7
    have f126 := f117.wr W121 g8
    have z127 := Nat.le_trans z118 (Keep.of_wr W121).1
    have K128 := K119.wr W121 (Or.inr g9)
    refine Go.via (S' := T121.setTop (mkF m 171 #[.val (.ref a1), .val (.int p2), .val (.ref a3), .val (.int (Int32.ofNat fn)), .val (.int (Int32.ofNat tn)), .val (.int p6), .val (.int (Int32.ofNat nn))] [])) (fun _ k => st121 _ k) ?_
    exact Go.retV X121 hx (BodyLoose.notSynchronized Bd) Bd.returns (hb hby d1_171) (by rw [e121]; exact ⟨rfl, N122, K128, _, nn, _, f124, by omega, by omega, V121, Or.inr ⟨hc122, (by simp only [show ¬ nn - 5 = nn - 1 by omega, show ¬ nn - 5 = nn - 2 by omega, if_false]; rw [hg103 _ (by omega)]; simp only [if_true]; decide)⟩⟩) (by decide) (by decide)
theorem d7_0 : decode prog_34_method_8_code 0 = .ok (.aload_n 0, 1) := by decide +kernel
theorem d7_1 : decode prog_34_method_8_code 1 = .ok (.getfield 29, 3) := by decide +kernel
theorem d7_4 : decode prog_34_method_8_code 4 = .ok (.aload_n 0, 1) := by decide +kernel
theorem d7_5 : decode prog_34_method_8_code 5 = .ok (.getfield 29, 3) := by decide +kernel
theorem d7_8 : decode prog_34_method_8_code 8 = .ok (.arraylength, 1) := by decide +kernel
theorem d7_9 : decode prog_34_method_8_code 9 = .ok (.iconst 5, 1) := by decide +kernel
theorem d7_10 : decode prog_34_method_8_code 10 = .ok (.isub, 1) := by decide +kernel
theorem d7_11 : decode prog_34_method_8_code 11 = .ok (.baload, 1) := by decide +kernel
theorem d7_12 : decode prog_34_method_8_code 12 = .ok (.bipush 23, 2) := by decide +kernel
theorem d7_14 : decode prog_34_method_8_code 14 = .ok (.if_icmp .ne 7, 3) := by decide +kernel
theorem d7_17 : decode prog_34_method_8_code 17 = .ok (.iconst 1, 1) := by decide +kernel
theorem d7_18 : decode prog_34_method_8_code 18 = .ok (.goto 4, 3) := by decide +kernel
theorem d7_22 : decode prog_34_method_8_code 22 = .ok (.ireturn, 1) := by decide +kernel
theorem d7_21 : decode prog_34_method_8_code 21 = .ok (.iconst 0, 1) := by decide +kernel
theorem ef_7 (m : MethodId) (x0 : Addr) : entryFrame m #[(.ref x0)] 1 = mkF m 0 #[.val (.ref x0)] [] := by first | (simp [entryFrame, mkF, argsToLocals, Value.category]; done) | rfl
def Q7 (Z : State) (a1 : Addr) (b : Addr) (nn : Nat) (g : Nat → Int32) (h0 : Heap) (n0 : Nat) (v : Option Value) (h : Heap) (L : List Loc) : Prop := ∃ r : Int32, v = some (.int r) ∧ Fr n0 L ∧ h = h0 ∧ ((r = 1 ∧ g (nn - 5) = 23) ∨ (r = 0 ∧ ¬ g (nn - 5) = 23))
set_option maxRecDepth 65536 in
set_option maxHeartbeats 40000000 in
theorem rm7 (l : Launch) (Z : State) (a0 : Array Value) (hw : ∀ d ∈ tables_1, d.before a0 Z = true) (ws : List Jvm.Cond) (a1 : Addr) (b : Addr) (nn : Nat) (g : Nat → Int32) (h0 : Heap) (n0 : Nat) (Z0 : n0 ≤ h0.size) (F1 : Fld Z h0 a1 "com/example/assayline/assayline/Frame" "bytes" "[B" (.ref b)) (V1 : own_BA Z h0 b nn g) (hn : 7 ≤ nn ∧ nn < 1000) :
    MetFree l (⟨"com/example/assayline/assayline/Frame", "intermediate", "()Z"⟩ : MethodName) (head1 (Jvm.Cond.code (⟨"com/example/assayline/assayline/Frame", "intermediate", "()Z"⟩ : MethodName) prog_34_method_8_code 1 (some .boolean) :: ws) ({ frames := 0, cells := 0, slots := 0, locals := 0 } : Room)) (fun a U => a = #[(.ref a1)] ∧ Z.Warmed39 U.vm ∧ U.heap = h0) (fun _ _ _ _ _ => True) (fun _ U o U' => ∃ v L, o = .returned v ∧ Q7 Z a1 b nn g h0 n0 v U'.heap L ∧ FrameEnd U o U' L ({ frames := 0, cells := 0, slots := 0, locals := 0 } : Room).cells ({ frames := 0, cells := 0, slots := 0, locals := 0 } : Room).slots) := by
  refine MetFree.of_bodySF (plainFor_of_name pn_2) hisR ?_
  intro p e s m args below meth c s₁ Bd hml0 hP hK
  obtain ⟨rfl, hZ, hh⟩ := hP
  have hx := Bd.exec
  have hby := Bd.bytes
  have hml : c.maxLocals = 1 := hml0
  have hown : s.vm.findClass "com/example/assayline/assayline/Frame" = some m.cls := findClass_of_methodNamed Bd.named
  have hnm := (name_of_methodNamed Bd.named Bd.method).1
  have X0 : Stand p l e ({ frames := 0, cells := 0, slots := 0, locals := 0 } : Room) s m #[(.ref a1)] below meth c s₁ [] 0 0 := Stand.of_body Bd
  have e0 : s₁.heap = h0 := by rw [← hh, Bd.state]; rfl
  have N0 := Fr.nil n0
  show Go p e below s (Q7 Z a1 b nn g h0 n0) ({ frames := 0, cells := 0, slots := 0, locals := 0 } : Room).cells ({ frames := 0, cells := 0, slots := 0, locals := 0 } : Room).slots _
  refine Go.via (S' := s₁.setTop (mkF m 0 #[.val (.ref a1)] [])) (fun t k => castTop (ef_7 m a1) k) ?_
  refine Go.via (S' := s₁.setTop (mkF m 1 #[.val (.ref a1)] [(.ref a1)])) (fun _ k => XS.aloadN X0.here hx rfl (hb hby d7_0) rfl rfl k) ?_
  obtain ⟨T1, X1, e1, st1⟩ := getF X0 hx hZ hown (host := "") (Or.inl (hw _ (List.mem_of_getElem? (i := 20) rfl))) Via.refl e0 F1 (g := (mkF m 1 #[.val (.ref a1)] [(.ref a1)])) rfl rfl (hb hby d7_1)
  refine Go.via (S' := T1.setTop (mkF m 4 #[.val (.ref a1)] [(.ref b)])) (fun _ k => st1 _ k) ?_
  refine Go.via (S' := T1.setTop (mkF m 5 #[.val (.ref a1)] [(.ref a1), (.ref b)])) (fun _ k => XS.aloadN X1.here hx rfl (hb hby d7_4) rfl rfl k) ?_
  obtain ⟨T2, X2, e2, st2⟩ := getF X1 hx hZ hown (host := "") (Or.inl (hw _ (List.mem_of_getElem? (i := 20) rfl))) Via.refl e1 F1 (g := (mkF m 5 #[.val (.ref a1)] [(.ref a1), (.ref b)])) rfl rfl (hb hby d7_5)
  refine Go.via (S' := T2.setTop (mkF m 8 #[.val (.ref a1)] [(.ref b), (.ref b)])) (fun _ k => st2 _ k) ?_
  obtain ⟨c3, Ar3, S3, -⟩ := id V1
  refine Go.via (S' := T2.setTop (mkF m 9 #[.val (.ref a1)] [(.int c3.slots.size.toInt32), (.ref b)])) (fun _ k => X2.arraylength hx (by rw [e2]; exact Ar3.1) (State.isArrayOf_alike hZ.alike Ar3.2.1) (g := (mkF m 8 #[.val (.ref a1)] [(.ref b), (.ref b)])) rfl rfl (hb hby d7_8) _ k) ?_
  rw [S3]
  show Go p e below s (Q7 Z a1 b nn g h0 n0) ({ frames := 0, cells := 0, slots := 0, locals := 0 } : Room).cells ({ frames := 0, cells := 0, slots := 0, locals := 0 } : Room).slots (T2.setTop (mkF m 9 #[.val (.ref a1)] [(.int (Int32.ofNat nn)), (.ref b)]))
  refine Go.via (S' := T2.setTop (mkF m 10 #[.val (.ref a1)] [(.int (5 : Int32)), (.int (Int32.ofNat nn)), (.ref b)])) (fun _ k => XS.iconst X2.here hx rfl (hb hby d7_9) k) ?_
  refine Go.via (S' := T2.setTop (mkF m 11 #[.val (.ref a1)] [(.int ((Int32.ofNat nn) - (5 : Int32))), (.ref b)])) (fun _ k => XS.isub X2.here hx rfl (hb hby d7_10) rfl k) ?_
  rw [show (Int32.ofNat nn) - (5 : Int32) = Int32.ofNat (nn - 5) from own_sub (i := nn) (k := 5) (by omega)]
  obtain ⟨c4, Ar4, S4, H4, G4⟩ := id V1
  have in4 : ¬ ((Int32.ofNat (nn - 5)) < 0 ∨ c4.slots.size ≤ ((Int32.ofNat (nn - 5))).toNatClampNeg) := by
    show ¬ (Int32.ofNat (nn - 5) < 0 ∨ c4.slots.size ≤ (Int32.ofNat (nn - 5)).toNatClampNeg)
    rw [S4, own_ncl (show (nn - 5) < 2 ^ 31 by omega)]
    exact fun q => q.elim (own_nn (show (nn - 5) < 2 ^ 31 by omega)) (Nat.not_le.mpr (show (nn - 5) < nn by omega))
  refine Go.via (S' := T2.setTop (mkF m 12 #[.val (.ref a1)] [(.int (g (nn - 5)))])) (fun _ k => X2.baloadBytes hx (j := (Int32.ofNat (nn - 5))) (v := .int (g (nn - 5))) (by rw [e2]; exact Ar4.1) (State.isArrayOf_alike hZ.alike Ar4.2.1) Ar4.2.2 in4 (by show c4.slots[(Int32.ofNat (nn - 5)).toNatClampNeg]? = _; rw [own_ncl (show (nn - 5) < 2 ^ 31 by omega)]; exact H4 _ (show (nn - 5) < nn by omega)) (g := (mkF m 11 #[.val (.ref a1)] [(.int (Int32.ofNat (nn - 5))), (.ref b)])) rfl rfl (hb hby d7_11) _ k) ?_
  refine Go.via (S' := T2.setTop (mkF m 14 #[.val (.ref a1)] [(.int (23 : Int32)), (.int (g (nn - 5)))])) (fun _ k => XS.bipush X2.here hx rfl (hb hby d7_12) k) ?_
  rcases Decidable.em ((g (nn - 5)) = (23 : Int32)) with hc14 | hc14
  · refine Go.via (S' := T2.setTop (mkF m 17 #[.val (.ref a1)] [])) (fun _ k => XS.icmpNo X2.here hx rfl (hb hby d7_14) rfl (teq hc14).2 k) ?_
    refine Go.via (S' := T2.setTop (mkF m 18 #[.val (.ref a1)] [(.int (1 : Int32))])) (fun _ k => XS.iconst X2.here hx rfl (hb hby d7_17) k) ?_
    refine Go.via (S' := T2.setTop (mkF m 22 #[.val (.ref a1)] [(.int (1 : Int32))])) (fun _ k => XS.goto X2.here hx rfl (pc0 := 18) (pc' := 22) rfl (hb hby d7_18) (by decide) (by decide) k) ?_
    exact Go.retB X2 hx (BodyLoose.notSynchronized Bd) Bd.returns (hb hby d7_22) rfl (by rw [e2]; exact ⟨_, rfl, N0, rfl, Or.inl ⟨rfl, hc14⟩⟩) (by decide) (by decide)
  · refine Go.via (S' := T2.setTop (mkF m 21 #[.val (.ref a1)] [])) (fun _ k => XS.icmpYes X2.here hx rfl (pc0 := 14) (pc' := 21) rfl (hb hby d7_14) rfl (feq hc14).2 (by decide) (by decide) k) ?_
    refine Go.via (S' := T2.setTop (mkF m 22 #[.val (.ref a1)] [(.int (0 : Int32))])) (fun _ k => XS.iconst X2.here hx rfl (hb hby d7_21) k) ?_
    exact Go.retB X2 hx (BodyLoose.notSynchronized Bd) Bd.returns (hb hby d7_22) rfl (by rw [e2]; exact ⟨_, rfl, N0, rfl, Or.inr ⟨rfl, hc14⟩⟩) (by decide) (by decide)
theorem own_ft (x y : Int32) : ∃ fn tn : Nat, fn ≤ tn ∧ tn ≤ 4 ∧ ((x &&& (2147483647 : Int32)) % (5 : Int32)) = Int32.ofNat fn ∧ ((Int32.ofNat fn) + ((y &&& (2147483647 : Int32)) % ((5 : Int32) - (Int32.ofNat fn)))) = Int32.ofNat tn ∧ ¬ ((5 : Int32) - (Int32.ofNat fn)) = 0 := by
  have e1 := c_mask x 2147483647 31 (by decide) (by decide)
  have e2 := c_mask y 2147483647 31 (by decide) (by decide)
  have e3 := (c_irem (x &&& 2147483647) 5 5 (by decide)).1 (by omega)
  refine ⟨((x &&& 2147483647) % 5).toInt.toNat, (((x &&& 2147483647) % 5).toInt + (y &&& 2147483647).toInt % (5 - ((x &&& 2147483647) % 5).toInt)).toNat, ?_⟩
  generalize hF : ((x &&& (2147483647 : Int32)) % (5 : Int32)) = F at e3 ⊢
  have hF0 : 0 ≤ F.toInt ∧ F.toInt < 5 := by omega
  have eF : F = Int32.ofNat F.toInt.toNat := by
    rw [← Int32.toInt_inj, own_n2i (by omega)]; omega
  have e5 : ((5 : Int32) - Int32.ofNat F.toInt.toNat) = Int32.ofNat (5 - F.toInt.toNat) := own_sub (i := 5) (by omega)
  have e6 : (Int32.ofNat (5 - F.toInt.toNat)).toInt = 5 - F.toInt := by rw [own_n2i (by omega)]; omega
  have e7 := (c_irem (y &&& 2147483647) (Int32.ofNat (5 - F.toInt.toNat)) (5 - F.toInt) e6).1 (by omega)
  have h8 : 0 ≤ (y &&& 2147483647).toInt % (5 - F.toInt) := Int.emod_nonneg _ (by omega)
  have h9 : (y &&& 2147483647).toInt % (5 - F.toInt) < 5 - F.toInt := Int.emod_lt_of_pos _ (by omega)
  refine ⟨by omega, by omega, eF, ?_, ?_⟩
  · rw [e5]
    have : ((y &&& 2147483647) % Int32.ofNat (5 - F.toInt.toNat)) = Int32.ofNat ((y &&& 2147483647).toInt % (5 - F.toInt)).toNat := by
      rw [← Int32.toInt_inj, e7, own_n2i (by omega)]; omega
    rw [this, own_add]
    congr 1
    omega
  · rw [e5]
    intro q
    have := congrArg Int32.toInt q
    rw [e6] at this
    have e10 : (0 : Int32).toInt = 0 := rfl
    omega
theorem own_num7 (x : Int32) : 0 ≤ (x &&& (7 : Int32)).toInt ∧ (x &&& (7 : Int32)).toInt ≤ 7 := by
  have := c_mask x 7 3 (by decide) (by decide)
  omega
theorem pd_4 : parseMethodDescriptor "(I[BIIZ)V" = some ⟨[.int, (.array .byte), .int, .int, .boolean], none⟩ := by decide +kernel
theorem pd_5 : parseMethodDescriptor "()Z" = some ⟨[], some .boolean⟩ := by decide +kernel
theorem pn_3 : plainName "com/example/assayline/assayline/FrameIntermediatePinLaw" = true := by first | (simp [plainName, overriddenIn]; done) | decide +kernel
theorem ef_0 (m : MethodId) (x0 : Int32) (x1 : Int64) (x2 : Int32) (x3 : Int32) (x4 : Int32) : entryFrame m #[(.int x0), (.long x1), (.int x2), (.int x3), (.int x4)] maxLocals = mkF m 0 #[.val (.int x0), .val (.long x1), .second, .val (.int x2), .val (.int x3), .val (.int x4), .unset, .unset, .unset, .unset, .unset] [] := by first | (simp [entryFrame, mkF, argsToLocals, Value.category, maxLocals]; done) | rfl
def Q0 (Z : State) (p1 : Int32) (q2 : Int64) (p3 : Int32) (p4 : Int32) (p5 : Int32) (hx_ : Addr) (cx_ : Cell) (h0 : Heap) (n0 : Nat) (v : Option Value) (h : Heap) (L : List Loc) : Prop := v = some (.int 1) ∧ Fr n0 L
set_option maxRecDepth 65536 in
set_option maxHeartbeats 40000000 in
theorem rm0 (l : Launch) (Z : State) (a0 : Array Value) (hw : ∀ d ∈ tables_1, d.before a0 Z = true) (ws : List Jvm.Cond) (p1 : Int32) (q2 : Int64) (p3 : Int32) (p4 : Int32) (p5 : Int32) (hx_ : Addr) (cx_ : Cell) (h0 : Heap) (n0 : Nat) (Z0 : n0 ≤ h0.size) (X00 : Old Z n0 h0) (Sx : Sta Z Z.heap "com/example/assayline/assayline/Frame" "HEX_DIGITS" "[B" (.ref hx_)) (Tx : Tab Z Z.heap hx_ cx_ .byte 16) :
    MetFree l x (head1 (Jvm.Cond.code x code maxLocals ret :: ws) room_1) (fun a U => a = #[(.int p1), (.long q2), (.int p3), (.int p4), (.int p5)] ∧ Z.Warmed39 U.vm ∧ U.heap = h0) (fun _ _ _ _ _ => True) (fun _ U o U' => ∃ v L, o = .returned v ∧ Q0 Z p1 q2 p3 p4 p5 hx_ cx_ h0 n0 v U'.heap L ∧ FrameEnd U o U' L room_1.cells room_1.slots) := by
  refine MetFree.of_bodySF (plainFor_of_name pn_3) hisR ?_
  intro p e s m args below meth c s₁ Bd hml0 hP hK
  obtain ⟨rfl, hZ, hh⟩ := hP
  have hx := Bd.exec
  have hby := Bd.bytes
  have hml : c.maxLocals = 11 := hml0
  have hown : s.vm.findClass "com/example/assayline/assayline/FrameIntermediatePinLaw" = some m.cls := findClass_of_methodNamed Bd.named
  have hnm := (name_of_methodNamed Bd.named Bd.method).1
  have X0 : Stand p l e room_1 s m #[(.int p1), (.long q2), (.int p3), (.int p4), (.int p5)] below meth c s₁ [] 0 0 := Stand.of_body Bd
  have e0 : s₁.heap = h0 := by rw [← hh, Bd.state]; rfl
  have N0 := Fr.nil n0
  show Go p e below s (Q0 Z p1 q2 p3 p4 p5 hx_ cx_ h0 n0) room_1.cells room_1.slots _
  refine Go.via (S' := s₁.setTop (mkF m 0 #[.val (.int p1), .val (.long q2), .second, .val (.int p3), .val (.int p4), .val (.int p5), .unset, .unset, .unset, .unset, .unset] [])) (fun t k => castTop (ef_0 m p1 q2 p3 p4 p5) k) ?_
  refine Go.via (S' := s₁.setTop (mkF m 1 #[.val (.int p1), .val (.long q2), .second, .val (.int p3), .val (.int p4), .val (.int p5), .unset, .unset, .unset, .unset, .unset] [(.int (4 : Int32))])) (fun _ k => XS.iconst X0.here hx rfl (hb hby at_0) k) ?_
  obtain ⟨T1, h1, k1, X1, e1, E1, A1, st1⟩ := newP X0 hx hZ (hw _ (List.mem_of_getElem? (i := 0) rfl)) e0 (g := (mkF m 1 #[.val (.int p1), .val (.long q2), .second, .val (.int p3), .val (.int p4), .val (.int p5), .unset, .unset, .unset, .unset, .unset] [(.int (4 : Int32))])) rfl (hb hby at_1) rfl (by decide) (cap := 4) (by decide) (by decide) (by decide) (by decide)
  obtain ⟨b1, g1⟩ : ∃ z, z = h0.size := ⟨_, rfl⟩
  rw [← g1] at A1 st1
  have g2 : n0 ≤ b1 := Nat.le_trans Z0 (Nat.le_of_eq g1.symm)
  have f3 := X00.ext E1
  have z4 := Nat.le_trans Z0 E1.1
  have V5 : Arv Z h1 b1 k1 .byte (4 : Int32) [(.int (0 : Int32)), (.int (0 : Int32)), (.int (0 : Int32)), (.int (0 : Int32))] (.int (0 : Int32)) := (Arv.new A1 (by decide)).pad (pad_rep [] (.int (0 : Int32)) 4)
  refine Go.via (S' := T1.setTop (mkF m 3 #[.val (.int p1), .val (.long q2), .second, .val (.int p3), .val (.int p4), .val (.int p5), .unset, .unset, .unset, .unset, .unset] [(.ref b1)])) (fun _ k => st1 _ k) ?_
  have VI1 : own_BA Z h1 b1 4 (fun _ => 0) := own_BA.new A1
  refine Go.via (S' := T1.setTop (mkF m 5 #[.val (.int p1), .val (.long q2), .second, .val (.int p3), .val (.int p4), .val (.int p5), .val (.ref b1), .unset, .unset, .unset, .unset] [])) (fun _ k => XS.astore X1.here hx rfl (hb hby at_3) rfl rfl (l' := #[.val (.int p1), .val (.long q2), .second, .val (.int p3), .val (.int p4), .val (.int p5), .val (.ref b1), .unset, .unset, .unset, .unset]) rfl k) ?_
  refine Go.via (S' := T1.setTop (mkF m 7 #[.val (.int p1), .val (.long q2), .second, .val (.int p3), .val (.int p4), .val (.int p5), .val (.ref b1), .unset, .unset, .unset, .unset] [(.ref b1)])) (fun _ k => XS.aload X1.here hx rfl (hb hby at_5) rfl rfl k) ?_
  refine Go.via (S' := T1.setTop (mkF m 8 #[.val (.int p1), .val (.long q2), .second, .val (.int p3), .val (.int p4), .val (.int p5), .val (.ref b1), .unset, .unset, .unset, .unset] [(.int (0 : Int32)), (.ref b1)])) (fun _ k => XS.iconst X1.here hx rfl (hb hby at_7) k) ?_
  refine Go.via (S' := T1.setTop (mkF m 9 #[.val (.int p1), .val (.long q2), .second, .val (.int p3), .val (.int p4), .val (.int p5), .val (.ref b1), .unset, .unset, .unset, .unset] [(.long q2), (.int (0 : Int32)), (.ref b1)])) (fun _ k => XS.lloadN X1.here hx rfl (hb hby at_8) rfl k) ?_
  refine Go.via (S' := T1.setTop (mkF m 10 #[.val (.int p1), .val (.long q2), .second, .val (.int p3), .val (.int p4), .val (.int p5), .val (.ref b1), .unset, .unset, .unset, .unset] [(.int (q2.toInt32)), (.int (0 : Int32)), (.ref b1)])) (fun _ k => XS.l2i X1.here hx rfl (hb hby at_9) rfl k) ?_
  refine Go.via (S' := T1.setTop (mkF m 11 #[.val (.int p1), .val (.long q2), .second, .val (.int p3), .val (.int p4), .val (.int p5), .val (.ref b1), .unset, .unset, .unset, .unset] [(.int ((q2.toInt32).toInt8.toInt32)), (.int (0 : Int32)), (.ref b1)])) (fun _ k => XS.i2b X1.here hx rfl (hb hby at_10) rfl k) ?_
  obtain ⟨c6, Ar6, S6, H6, G6⟩ := id VI1
  have in6 : ¬ ((0 : Int32) < 0 ∨ c6.slots.size ≤ ((0 : Int32)).toNatClampNeg) := by
    show ¬ (Int32.ofNat 0 < 0 ∨ c6.slots.size ≤ (Int32.ofNat 0).toNatClampNeg)
    rw [S6, own_ncl (by decide)]
    exact fun q => q.elim (own_nn (by decide)) (Nat.not_le.mpr (by decide))
  obtain ⟨T6, h6, X6, e6, W6, st6⟩ := stB X1 hx hZ e1 Ar6 (j := (0 : Int32)) in6 (g := (mkF m 11 #[.val (.int p1), .val (.long q2), .second, .val (.int p3), .val (.int p4), .val (.int p5), .val (.ref b1), .unset, .unset, .unset, .unset] [(.int ((q2.toInt32).toInt8.toInt32)), (.int (0 : Int32)), (.ref b1)])) rfl rfl (hb hby at_11)
  have N7 := Fr.snoc X6 N0 g2
  have Wn6 : Wr _ _ _ (Int32.ofNat 0).toNatClampNeg _ := W6
  rw [own_ncl (by decide)] at Wn6
  have V6 := own_BA.set Ar6 S6 H6 G6 Wn6 (by decide)
  have f8 := f3.wr W6 g2
  have z9 := Nat.le_trans z4 (Keep.of_wr W6).1
  refine Go.via (S' := T6.setTop (mkF m 12 #[.val (.int p1), .val (.long q2), .second, .val (.int p3), .val (.int p4), .val (.int p5), .val (.ref b1), .unset, .unset, .unset, .unset] [])) (fun _ k => st6 _ k) ?_
  refine Go.via (S' := T6.setTop (mkF m 14 #[.val (.int p1), .val (.long q2), .second, .val (.int p3), .val (.int p4), .val (.int p5), .val (.ref b1), .unset, .unset, .unset, .unset] [(.ref b1)])) (fun _ k => XS.aload X6.here hx rfl (hb hby at_12) rfl rfl k) ?_
  refine Go.via (S' := T6.setTop (mkF m 15 #[.val (.int p1), .val (.long q2), .second, .val (.int p3), .val (.int p4), .val (.int p5), .val (.ref b1), .unset, .unset, .unset, .unset] [(.int (1 : Int32)), (.ref b1)])) (fun _ k => XS.iconst X6.here hx rfl (hb hby at_14) k) ?_
  refine Go.via (S' := T6.setTop (mkF m 16 #[.val (.int p1), .val (.long q2), .second, .val (.int p3), .val (.int p4), .val (.int p5), .val (.ref b1), .unset, .unset, .unset, .unset] [(.long q2), (.int (1 : Int32)), (.ref b1)])) (fun _ k => XS.lloadN X6.here hx rfl (hb hby at_15) rfl k) ?_
  refine Go.via (S' := T6.setTop (mkF m 18 #[.val (.int p1), .val (.long q2), .second, .val (.int p3), .val (.int p4), .val (.int p5), .val (.ref b1), .unset, .unset, .unset, .unset] [(.int (8 : Int32)), (.long q2), (.int (1 : Int32)), (.ref b1)])) (fun _ k => XS.bipush X6.here hx rfl (hb hby at_16) k) ?_
  refine Go.via (S' := T6.setTop (mkF m 19 #[.val (.int p1), .val (.long q2), .second, .val (.int p3), .val (.int p4), .val (.int p5), .val (.ref b1), .unset, .unset, .unset, .unset] [(.long ((q2.toUInt64 >>> ((8 : Int32) &&& 0x3f).toInt64.toUInt64).toInt64)), (.int (1 : Int32)), (.ref b1)])) (fun _ k => XS.lushr X6.here hx rfl (hb hby at_18) rfl k) ?_
  refine Go.via (S' := T6.setTop (mkF m 20 #[.val (.int p1), .val (.long q2), .second, .val (.int p3), .val (.int p4), .val (.int p5), .val (.ref b1), .unset, .unset, .unset, .unset] [(.int (((q2.toUInt64 >>> ((8 : Int32) &&& 0x3f).toInt64.toUInt64).toInt64).toInt32)), (.int (1 : Int32)), (.ref b1)])) (fun _ k => XS.l2i X6.here hx rfl (hb hby at_19) rfl k) ?_
  refine Go.via (S' := T6.setTop (mkF m 21 #[.val (.int p1), .val (.long q2), .second, .val (.int p3), .val (.int p4), .val (.int p5), .val (.ref b1), .unset, .unset, .unset, .unset] [(.int ((((q2.toUInt64 >>> ((8 : Int32) &&& 0x3f).toInt64.toUInt64).toInt64).toInt32).toInt8.toInt32)), (.int (1 : Int32)), (.ref b1)])) (fun _ k => XS.i2b X6.here hx rfl (hb hby at_20) rfl k) ?_
  obtain ⟨c10, Ar10, S10, H10, G10⟩ := id V6
  have in10 : ¬ ((1 : Int32) < 0 ∨ c10.slots.size ≤ ((1 : Int32)).toNatClampNeg) := by
    show ¬ (Int32.ofNat 1 < 0 ∨ c10.slots.size ≤ (Int32.ofNat 1).toNatClampNeg)
    rw [S10, own_ncl (by decide)]
    exact fun q => q.elim (own_nn (by decide)) (Nat.not_le.mpr (by decide))
  obtain ⟨T10, h10, X10, e10, W10, st10⟩ := stB X6 hx hZ e6 Ar10 (j := (1 : Int32)) in10 (g := (mkF m 21 #[.val (.int p1), .val (.long q2), .second, .val (.int p3), .val (.int p4), .val (.int p5), .val (.ref b1), .unset, .unset, .unset, .unset] [(.int ((((q2.toUInt64 >>> ((8 : Int32) &&& 0x3f).toInt64.toUInt64).toInt64).toInt32).toInt8.toInt32)), (.int (1 : Int32)), (.ref b1)])) rfl rfl (hb hby at_21)
  have N11 := Fr.snoc X10 N7 g2
  have Wn10 : Wr _ _ _ (Int32.ofNat 1).toNatClampNeg _ := W10
  rw [own_ncl (by decide)] at Wn10
  have V10 := own_BA.set Ar10 S10 H10 G10 Wn10 (by decide)
  have f12 := f8.wr W10 g2
  have z13 := Nat.le_trans z9 (Keep.of_wr W10).1
  refine Go.via (S' := T10.setTop (mkF m 22 #[.val (.int p1), .val (.long q2), .second, .val (.int p3), .val (.int p4), .val (.int p5), .val (.ref b1), .unset, .unset, .unset, .unset] [])) (fun _ k => st10 _ k) ?_
  refine Go.via (S' := T10.setTop (mkF m 24 #[.val (.int p1), .val (.long q2), .second, .val (.int p3), .val (.int p4), .val (.int p5), .val (.ref b1), .unset, .unset, .unset, .unset] [(.ref b1)])) (fun _ k => XS.aload X10.here hx rfl (hb hby at_22) rfl rfl k) ?_
  refine Go.via (S' := T10.setTop (mkF m 25 #[.val (.int p1), .val (.long q2), .second, .val (.int p3), .val (.int p4), .val (.int p5), .val (.ref b1), .unset, .unset, .unset, .unset] [(.int (2 : Int32)), (.ref b1)])) (fun _ k => XS.iconst X10.here hx rfl (hb hby at_24) k) ?_
  refine Go.via (S' := T10.setTop (mkF m 26 #[.val (.int p1), .val (.long q2), .second, .val (.int p3), .val (.int p4), .val (.int p5), .val (.ref b1), .unset, .unset, .unset, .unset] [(.long q2), (.int (2 : Int32)), (.ref b1)])) (fun _ k => XS.lloadN X10.here hx rfl (hb hby at_25) rfl k) ?_
  refine Go.via (S' := T10.setTop (mkF m 28 #[.val (.int p1), .val (.long q2), .second, .val (.int p3), .val (.int p4), .val (.int p5), .val (.ref b1), .unset, .unset, .unset, .unset] [(.int (16 : Int32)), (.long q2), (.int (2 : Int32)), (.ref b1)])) (fun _ k => XS.bipush X10.here hx rfl (hb hby at_26) k) ?_
  refine Go.via (S' := T10.setTop (mkF m 29 #[.val (.int p1), .val (.long q2), .second, .val (.int p3), .val (.int p4), .val (.int p5), .val (.ref b1), .unset, .unset, .unset, .unset] [(.long ((q2.toUInt64 >>> ((16 : Int32) &&& 0x3f).toInt64.toUInt64).toInt64)), (.int (2 : Int32)), (.ref b1)])) (fun _ k => XS.lushr X10.here hx rfl (hb hby at_28) rfl k) ?_
  refine Go.via (S' := T10.setTop (mkF m 30 #[.val (.int p1), .val (.long q2), .second, .val (.int p3), .val (.int p4), .val (.int p5), .val (.ref b1), .unset, .unset, .unset, .unset] [(.int (((q2.toUInt64 >>> ((16 : Int32) &&& 0x3f).toInt64.toUInt64).toInt64).toInt32)), (.int (2 : Int32)), (.ref b1)])) (fun _ k => XS.l2i X10.here hx rfl (hb hby at_29) rfl k) ?_
  refine Go.via (S' := T10.setTop (mkF m 31 #[.val (.int p1), .val (.long q2), .second, .val (.int p3), .val (.int p4), .val (.int p5), .val (.ref b1), .unset, .unset, .unset, .unset] [(.int ((((q2.toUInt64 >>> ((16 : Int32) &&& 0x3f).toInt64.toUInt64).toInt64).toInt32).toInt8.toInt32)), (.int (2 : Int32)), (.ref b1)])) (fun _ k => XS.i2b X10.here hx rfl (hb hby at_30) rfl k) ?_
  obtain ⟨c14, Ar14, S14, H14, G14⟩ := id V10
  have in14 : ¬ ((2 : Int32) < 0 ∨ c14.slots.size ≤ ((2 : Int32)).toNatClampNeg) := by
    show ¬ (Int32.ofNat 2 < 0 ∨ c14.slots.size ≤ (Int32.ofNat 2).toNatClampNeg)
    rw [S14, own_ncl (by decide)]
    exact fun q => q.elim (own_nn (by decide)) (Nat.not_le.mpr (by decide))
  obtain ⟨T14, h14, X14, e14, W14, st14⟩ := stB X10 hx hZ e10 Ar14 (j := (2 : Int32)) in14 (g := (mkF m 31 #[.val (.int p1), .val (.long q2), .second, .val (.int p3), .val (.int p4), .val (.int p5), .val (.ref b1), .unset, .unset, .unset, .unset] [(.int ((((q2.toUInt64 >>> ((16 : Int32) &&& 0x3f).toInt64.toUInt64).toInt64).toInt32).toInt8.toInt32)), (.int (2 : Int32)), (.ref b1)])) rfl rfl (hb hby at_31)
  have N15 := Fr.snoc X14 N11 g2
  have Wn14 : Wr _ _ _ (Int32.ofNat 2).toNatClampNeg _ := W14
  rw [own_ncl (by decide)] at Wn14
  have V14 := own_BA.set Ar14 S14 H14 G14 Wn14 (by decide)
  have f16 := f12.wr W14 g2
  have z17 := Nat.le_trans z13 (Keep.of_wr W14).1
  refine Go.via (S' := T14.setTop (mkF m 32 #[.val (.int p1), .val (.long q2), .second, .val (.int p3), .val (.int p4), .val (.int p5), .val (.ref b1), .unset, .unset, .unset, .unset] [])) (fun _ k => st14 _ k) ?_
  refine Go.via (S' := T14.setTop (mkF m 34 #[.val (.int p1), .val (.long q2), .second, .val (.int p3), .val (.int p4), .val (.int p5), .val (.ref b1), .unset, .unset, .unset, .unset] [(.ref b1)])) (fun _ k => XS.aload X14.here hx rfl (hb hby at_32) rfl rfl k) ?_
  refine Go.via (S' := T14.setTop (mkF m 35 #[.val (.int p1), .val (.long q2), .second, .val (.int p3), .val (.int p4), .val (.int p5), .val (.ref b1), .unset, .unset, .unset, .unset] [(.int (3 : Int32)), (.ref b1)])) (fun _ k => XS.iconst X14.here hx rfl (hb hby at_34) k) ?_
  refine Go.via (S' := T14.setTop (mkF m 36 #[.val (.int p1), .val (.long q2), .second, .val (.int p3), .val (.int p4), .val (.int p5), .val (.ref b1), .unset, .unset, .unset, .unset] [(.long q2), (.int (3 : Int32)), (.ref b1)])) (fun _ k => XS.lloadN X14.here hx rfl (hb hby at_35) rfl k) ?_
  refine Go.via (S' := T14.setTop (mkF m 38 #[.val (.int p1), .val (.long q2), .second, .val (.int p3), .val (.int p4), .val (.int p5), .val (.ref b1), .unset, .unset, .unset, .unset] [(.int (24 : Int32)), (.long q2), (.int (3 : Int32)), (.ref b1)])) (fun _ k => XS.bipush X14.here hx rfl (hb hby at_36) k) ?_
  refine Go.via (S' := T14.setTop (mkF m 39 #[.val (.int p1), .val (.long q2), .second, .val (.int p3), .val (.int p4), .val (.int p5), .val (.ref b1), .unset, .unset, .unset, .unset] [(.long ((q2.toUInt64 >>> ((24 : Int32) &&& 0x3f).toInt64.toUInt64).toInt64)), (.int (3 : Int32)), (.ref b1)])) (fun _ k => XS.lushr X14.here hx rfl (hb hby at_38) rfl k) ?_
  refine Go.via (S' := T14.setTop (mkF m 40 #[.val (.int p1), .val (.long q2), .second, .val (.int p3), .val (.int p4), .val (.int p5), .val (.ref b1), .unset, .unset, .unset, .unset] [(.int (((q2.toUInt64 >>> ((24 : Int32) &&& 0x3f).toInt64.toUInt64).toInt64).toInt32)), (.int (3 : Int32)), (.ref b1)])) (fun _ k => XS.l2i X14.here hx rfl (hb hby at_39) rfl k) ?_
  refine Go.via (S' := T14.setTop (mkF m 41 #[.val (.int p1), .val (.long q2), .second, .val (.int p3), .val (.int p4), .val (.int p5), .val (.ref b1), .unset, .unset, .unset, .unset] [(.int ((((q2.toUInt64 >>> ((24 : Int32) &&& 0x3f).toInt64.toUInt64).toInt64).toInt32).toInt8.toInt32)), (.int (3 : Int32)), (.ref b1)])) (fun _ k => XS.i2b X14.here hx rfl (hb hby at_40) rfl k) ?_
  obtain ⟨c18, Ar18, S18, H18, G18⟩ := id V14
  have in18 : ¬ ((3 : Int32) < 0 ∨ c18.slots.size ≤ ((3 : Int32)).toNatClampNeg) := by
    show ¬ (Int32.ofNat 3 < 0 ∨ c18.slots.size ≤ (Int32.ofNat 3).toNatClampNeg)
    rw [S18, own_ncl (by decide)]
    exact fun q => q.elim (own_nn (by decide)) (Nat.not_le.mpr (by decide))
  obtain ⟨T18, h18, X18, e18, W18, st18⟩ := stB X14 hx hZ e14 Ar18 (j := (3 : Int32)) in18 (g := (mkF m 41 #[.val (.int p1), .val (.long q2), .second, .val (.int p3), .val (.int p4), .val (.int p5), .val (.ref b1), .unset, .unset, .unset, .unset] [(.int ((((q2.toUInt64 >>> ((24 : Int32) &&& 0x3f).toInt64.toUInt64).toInt64).toInt32).toInt8.toInt32)), (.int (3 : Int32)), (.ref b1)])) rfl rfl (hb hby at_41)
  have N19 := Fr.snoc X18 N15 g2
  have Wn18 : Wr _ _ _ (Int32.ofNat 3).toNatClampNeg _ := W18
  rw [own_ncl (by decide)] at Wn18
  have V18 := own_BA.set Ar18 S18 H18 G18 Wn18 (by decide)
  have f20 := f16.wr W18 g2
  have z21 := Nat.le_trans z17 (Keep.of_wr W18).1
  refine Go.via (S' := T18.setTop (mkF m 42 #[.val (.int p1), .val (.long q2), .second, .val (.int p3), .val (.int p4), .val (.int p5), .val (.ref b1), .unset, .unset, .unset, .unset] [])) (fun _ k => st18 _ k) ?_
  refine Go.via (S' := T18.setTop (mkF m 43 #[.val (.int p1), .val (.long q2), .second, .val (.int p3), .val (.int p4), .val (.int p5), .val (.ref b1), .unset, .unset, .unset, .unset] [(.int p3)])) (fun _ k => XS.iloadN X18.here hx rfl (hb hby at_42) rfl k) ?_
  refine Go.via (S' := T18.setTop (mkF m 45 #[.val (.int p1), .val (.long q2), .second, .val (.int p3), .val (.int p4), .val (.int p5), .val (.ref b1), .unset, .unset, .unset, .unset] [(.int (2147483647 : Int32)), (.int p3)])) (fun _ k => X18.ldcInt hx hown (mvT hZ (hw _ (List.mem_of_getElem? (i := 1) rfl))) (g := (mkF m 43 #[.val (.int p1), .val (.long q2), .second, .val (.int p3), .val (.int p4), .val (.int p5), .val (.ref b1), .unset, .unset, .unset, .unset] [(.int p3)])) rfl (hb hby at_43) _ k) ?_
  refine Go.via (S' := T18.setTop (mkF m 46 #[.val (.int p1), .val (.long q2), .second, .val (.int p3), .val (.int p4), .val (.int p5), .val (.ref b1), .unset, .unset, .unset, .unset] [(.int (p3 &&& (2147483647 : Int32)))])) (fun _ k => XS.iand X18.here hx rfl (hb hby at_45) rfl k) ?_
  refine Go.via (S' := T18.setTop (mkF m 47 #[.val (.int p1), .val (.long q2), .second, .val (.int p3), .val (.int p4), .val (.int p5), .val (.ref b1), .unset, .unset, .unset, .unset] [(.int (5 : Int32)), (.int (p3 &&& (2147483647 : Int32)))])) (fun _ k => XS.iconst X18.here hx rfl (hb hby at_46) k) ?_
  refine Go.via (S' := T18.setTop (mkF m 48 #[.val (.int p1), .val (.long q2), .second, .val (.int p3), .val (.int p4), .val (.int p5), .val (.ref b1), .unset, .unset, .unset, .unset] [(.int ((p3 &&& (2147483647 : Int32)) % (5 : Int32)))])) (fun _ k => iremM X18 hx rfl (hb hby at_47) rfl (by decide) k) ?_
  obtain ⟨fn, tn, hft1, hft2, efn, etn, hne⟩ := own_ft p3 p4
  rw [efn]
  refine Go.via (S' := T18.setTop (mkF m 50 #[.val (.int p1), .val (.long q2), .second, .val (.int p3), .val (.int p4), .val (.int p5), .val (.ref b1), .val (.int (Int32.ofNat fn)), .unset, .unset, .unset] [])) (fun _ k => XS.istore X18.here hx rfl (hb hby at_48) rfl (l' := #[.val (.int p1), .val (.long q2), .second, .val (.int p3), .val (.int p4), .val (.int p5), .val (.ref b1), .val (.int (Int32.ofNat fn)), .unset, .unset, .unset]) rfl k) ?_
  refine Go.via (S' := T18.setTop (mkF m 52 #[.val (.int p1), .val (.long q2), .second, .val (.int p3), .val (.int p4), .val (.int p5), .val (.ref b1), .val (.int (Int32.ofNat fn)), .unset, .unset, .unset] [(.int (Int32.ofNat fn))])) (fun _ k => XS.iload X18.here hx rfl (hb hby at_50) rfl k) ?_
  refine Go.via (S' := T18.setTop (mkF m 54 #[.val (.int p1), .val (.long q2), .second, .val (.int p3), .val (.int p4), .val (.int p5), .val (.ref b1), .val (.int (Int32.ofNat fn)), .unset, .unset, .unset] [(.int p4), (.int (Int32.ofNat fn))])) (fun _ k => XS.iload X18.here hx rfl (hb hby at_52) rfl k) ?_
  refine Go.via (S' := T18.setTop (mkF m 56 #[.val (.int p1), .val (.long q2), .second, .val (.int p3), .val (.int p4), .val (.int p5), .val (.ref b1), .val (.int (Int32.ofNat fn)), .unset, .unset, .unset] [(.int (2147483647 : Int32)), (.int p4), (.int (Int32.ofNat fn))])) (fun _ k => X18.ldcInt hx hown (mvT hZ (hw _ (List.mem_of_getElem? (i := 1) rfl))) (g := (mkF m 54 #[.val (.int p1), .val (.long q2), .second, .val (.int p3), .val (.int p4), .val (.int p5), .val (.ref b1), .val (.int (Int32.ofNat fn)), .unset, .unset, .unset] [(.int p4), (.int (Int32.ofNat fn))])) rfl (hb hby at_54) _ k) ?_
  refine Go.via (S' := T18.setTop (mkF m 57 #[.val (.int p1), .val (.long q2), .second, .val (.int p3), .val (.int p4), .val (.int p5), .val (.ref b1), .val (.int (Int32.ofNat fn)), .unset, .unset, .unset] [(.int (p4 &&& (2147483647 : Int32))), (.int (Int32.ofNat fn))])) (fun _ k => XS.iand X18.here hx rfl (hb hby at_56) rfl k) ?_
  refine Go.via (S' := T18.setTop (mkF m 58 #[.val (.int p1), .val (.long q2), .second, .val (.int p3), .val (.int p4), .val (.int p5), .val (.ref b1), .val (.int (Int32.ofNat fn)), .unset, .unset, .unset] [(.int (5 : Int32)), (.int (p4 &&& (2147483647 : Int32))), (.int (Int32.ofNat fn))])) (fun _ k => XS.iconst X18.here hx rfl (hb hby at_57) k) ?_
  refine Go.via (S' := T18.setTop (mkF m 60 #[.val (.int p1), .val (.long q2), .second, .val (.int p3), .val (.int p4), .val (.int p5), .val (.ref b1), .val (.int (Int32.ofNat fn)), .unset, .unset, .unset] [(.int (Int32.ofNat fn)), (.int (5 : Int32)), (.int (p4 &&& (2147483647 : Int32))), (.int (Int32.ofNat fn))])) (fun _ k => XS.iload X18.here hx rfl (hb hby at_58) rfl k) ?_
  refine Go.via (S' := T18.setTop (mkF m 61 #[.val (.int p1), .val (.long q2), .second, .val (.int p3), .val (.int p4), .val (.int p5), .val (.ref b1), .val (.int (Int32.ofNat fn)), .unset, .unset, .unset] [(.int ((5 : Int32) - (Int32.ofNat fn))), (.int (p4 &&& (2147483647 : Int32))), (.int (Int32.ofNat fn))])) (fun _ k => XS.isub X18.here hx rfl (hb hby at_60) rfl k) ?_
  refine Go.via (S' := T18.setTop (mkF m 62 #[.val (.int p1), .val (.long q2), .second, .val (.int p3), .val (.int p4), .val (.int p5), .val (.ref b1), .val (.int (Int32.ofNat fn)), .unset, .unset, .unset] [(.int ((p4 &&& (2147483647 : Int32)) % ((5 : Int32) - (Int32.ofNat fn)))), (.int (Int32.ofNat fn))])) (fun _ k => iremM X18 hx rfl (hb hby at_61) rfl hne k) ?_
  refine Go.via (S' := T18.setTop (mkF m 63 #[.val (.int p1), .val (.long q2), .second, .val (.int p3), .val (.int p4), .val (.int p5), .val (.ref b1), .val (.int (Int32.ofNat fn)), .unset, .unset, .unset] [(.int ((Int32.ofNat fn) + ((p4 &&& (2147483647 : Int32)) % ((5 : Int32) - (Int32.ofNat fn)))))])) (fun _ k => XS.iadd X18.here hx rfl (hb hby at_62) rfl k) ?_
  rw [etn]
  refine Go.via (S' := T18.setTop (mkF m 65 #[.val (.int p1), .val (.long q2), .second, .val (.int p3), .val (.int p4), .val (.int p5), .val (.ref b1), .val (.int (Int32.ofNat fn)), .val (.int (Int32.ofNat tn)), .unset, .unset] [])) (fun _ k => XS.istore X18.here hx rfl (hb hby at_63) rfl (l' := #[.val (.int p1), .val (.long q2), .second, .val (.int p3), .val (.int p4), .val (.int p5), .val (.ref b1), .val (.int (Int32.ofNat fn)), .val (.int (Int32.ofNat tn)), .unset, .unset]) rfl k) ?_
  refine Go.via (S' := T18.setTop (mkF m 67 #[.val (.int p1), .val (.long q2), .second, .val (.int p3), .val (.int p4), .val (.int p5), .val (.ref b1), .val (.int (Int32.ofNat fn)), .val (.int (Int32.ofNat tn)), .unset, .unset] [(.int p5)])) (fun _ k => XS.iload X18.here hx rfl (hb hby at_65) rfl k) ?_
  refine Go.via (S' := T18.setTop (mkF m 68 #[.val (.int p1), .val (.long q2), .second, .val (.int p3), .val (.int p4), .val (.int p5), .val (.ref b1), .val (.int (Int32.ofNat fn)), .val (.int (Int32.ofNat tn)), .unset, .unset] [(.int (1 : Int32)), (.int p5)])) (fun _ k => XS.iconst X18.here hx rfl (hb hby at_67) k) ?_
  refine Go.via (S' := T18.setTop (mkF m 69 #[.val (.int p1), .val (.long q2), .second, .val (.int p3), .val (.int p4), .val (.int p5), .val (.ref b1), .val (.int (Int32.ofNat fn)), .val (.int (Int32.ofNat tn)), .unset, .unset] [(.int (p5 &&& (1 : Int32)))])) (fun _ k => XS.iand X18.here hx rfl (hb hby at_68) rfl k) ?_
  rcases Decidable.em ((p5 &&& (1 : Int32)) = (0 : Int32)) with hc69 | hc69
  · refine Go.via (S' := T18.setTop (mkF m 76 #[.val (.int p1), .val (.long q2), .second, .val (.int p3), .val (.int p4), .val (.int p5), .val (.ref b1), .val (.int (Int32.ofNat fn)), .val (.int (Int32.ofNat tn)), .unset, .unset] [])) (fun _ k => XS.ifYes X18.here hx rfl (pc0 := 69) (pc' := 76) rfl (hb hby at_69) rfl ((if0 _ _).trans (teq hc69).1) (by decide) (by decide) k) ?_
    refine Go.via (S' := T18.setTop (mkF m 77 #[.val (.int p1), .val (.long q2), .second, .val (.int p3), .val (.int p4), .val (.int p5), .val (.ref b1), .val (.int (Int32.ofNat fn)), .val (.int (Int32.ofNat tn)), .unset, .unset] [(.int (0 : Int32))])) (fun _ k => XS.iconst X18.here hx rfl (hb hby at_76) k) ?_
    refine Go.via (S' := T18.setTop (mkF m 79 #[.val (.int p1), .val (.long q2), .second, .val (.int p3), .val (.int p4), .val (.int p5), .val (.ref b1), .val (.int (Int32.ofNat fn)), .val (.int (Int32.ofNat tn)), .val (.int (0 : Int32)), .unset] [])) (fun _ k => XS.istore X18.here hx rfl (hb hby at_77) rfl (l' := #[.val (.int p1), .val (.long q2), .second, .val (.int p3), .val (.int p4), .val (.int p5), .val (.ref b1), .val (.int (Int32.ofNat fn)), .val (.int (Int32.ofNat tn)), .val (.int (0 : Int32)), .unset]) rfl k) ?_
    obtain ⟨T22, h22, X22, e22, E22, A22, D22, -, st22⟩ := newO X18 hx hZ hown (hw _ (List.mem_of_getElem? (i := 2) rfl)) (hw _ (List.mem_of_getElem? (i := 3) rfl)) (hw _ (List.mem_of_getElem? (i := 4) rfl)) e18 (g := (mkF m 79 #[.val (.int p1), .val (.long q2), .second, .val (.int p3), .val (.int p4), .val (.int p5), .val (.ref b1), .val (.int (Int32.ofNat fn)), .val (.int (Int32.ofNat tn)), .val (.int (0 : Int32)), .unset] [])) rfl (hb hby at_79) (by decide) (by decide)
    obtain ⟨b22, g22⟩ : ∃ z, z = h18.size := ⟨_, rfl⟩
    rw [← g22] at A22 D22 st22
    have ne23 : b1 ≠ b22 := Nat.ne_of_lt (Nat.lt_of_lt_of_le V18.lt (Nat.le_of_eq g22.symm))
    have g24 : n0 ≤ b22 := Nat.le_trans z21 (Nat.le_of_eq g22.symm)
    have f25 := f20.ext E22
    have f26 := V18.ext E22
    have z27 := Nat.le_trans z21 E22.1
    have F28 : Fld Z h22 b22 "com/example/assayline/assayline/Frame" "bytes" "[B" .null := D22 (Or.inr (hw _ (List.mem_of_getElem? (i := 21) rfl))) (ty := (.array .byte)) (by decide)
    refine Go.via (S' := T22.setTop (mkF m 82 #[.val (.int p1), .val (.long q2), .second, .val (.int p3), .val (.int p4), .val (.int p5), .val (.ref b1), .val (.int (Int32.ofNat fn)), .val (.int (Int32.ofNat tn)), .val (.int (0 : Int32)), .unset] [(.ref b22)])) (fun _ k => st22 _ k) ?_
    refine Go.via (S' := T22.setTop (mkF m 83 #[.val (.int p1), .val (.long q2), .second, .val (.int p3), .val (.int p4), .val (.int p5), .val (.ref b1), .val (.int (Int32.ofNat fn)), .val (.int (Int32.ofNat tn)), .val (.int (0 : Int32)), .unset] [(.ref b22), (.ref b22)])) (fun _ k => XS.dup X22.here hx rfl (hb hby at_82) rfl rfl k) ?_
    refine Go.via (S' := T22.setTop (mkF m 84 #[.val (.int p1), .val (.long q2), .second, .val (.int p3), .val (.int p4), .val (.int p5), .val (.ref b1), .val (.int (Int32.ofNat fn)), .val (.int (Int32.ofNat tn)), .val (.int (0 : Int32)), .unset] [(.int p1), (.ref b22), (.ref b22)])) (fun _ k => XS.iloadN X22.here hx rfl (hb hby at_83) rfl k) ?_
    refine Go.via (S' := T22.setTop (mkF m 86 #[.val (.int p1), .val (.long q2), .second, .val (.int p3), .val (.int p4), .val (.int p5), .val (.ref b1), .val (.int (Int32.ofNat fn)), .val (.int (Int32.ofNat tn)), .val (.int (0 : Int32)), .unset] [(.int (7 : Int32)), (.int p1), (.ref b22), (.ref b22)])) (fun _ k => XS.bipush X22.here hx rfl (hb hby at_84) k) ?_
    refine Go.via (S' := T22.setTop (mkF m 87 #[.val (.int p1), .val (.long q2), .second, .val (.int p3), .val (.int p4), .val (.int p5), .val (.ref b1), .val (.int (Int32.ofNat fn)), .val (.int (Int32.ofNat tn)), .val (.int (0 : Int32)), .unset] [(.int (p1 &&& (7 : Int32))), (.ref b22), (.ref b22)])) (fun _ k => XS.iand X22.here hx rfl (hb hby at_86) rfl k) ?_
    refine Go.via (S' := T22.setTop (mkF m 89 #[.val (.int p1), .val (.long q2), .second, .val (.int p3), .val (.int p4), .val (.int p5), .val (.ref b1), .val (.int (Int32.ofNat fn)), .val (.int (Int32.ofNat tn)), .val (.int (0 : Int32)), .unset] [(.ref b1), (.int (p1 &&& (7 : Int32))), (.ref b22), (.ref b22)])) (fun _ k => XS.aload X22.here hx rfl (hb hby at_87) rfl rfl k) ?_
    refine Go.via (S' := T22.setTop (mkF m 91 #[.val (.int p1), .val (.long q2), .second, .val (.int p3), .val (.int p4), .val (.int p5), .val (.ref b1), .val (.int (Int32.ofNat fn)), .val (.int (Int32.ofNat tn)), .val (.int (0 : Int32)), .unset] [(.int (Int32.ofNat fn)), (.ref b1), (.int (p1 &&& (7 : Int32))), (.ref b22), (.ref b22)])) (fun _ k => XS.iload X22.here hx rfl (hb hby at_89) rfl k) ?_
    refine Go.via (S' := T22.setTop (mkF m 93 #[.val (.int p1), .val (.long q2), .second, .val (.int p3), .val (.int p4), .val (.int p5), .val (.ref b1), .val (.int (Int32.ofNat fn)), .val (.int (Int32.ofNat tn)), .val (.int (0 : Int32)), .unset] [(.int (Int32.ofNat tn)), (.int (Int32.ofNat fn)), (.ref b1), (.int (p1 &&& (7 : Int32))), (.ref b22), (.ref b22)])) (fun _ k => XS.iload X22.here hx rfl (hb hby at_91) rfl k) ?_
    refine Go.via (S' := T22.setTop (mkF m 95 #[.val (.int p1), .val (.long q2), .second, .val (.int p3), .val (.int p4), .val (.int p5), .val (.ref b1), .val (.int (Int32.ofNat fn)), .val (.int (Int32.ofNat tn)), .val (.int (0 : Int32)), .unset] [(.int (0 : Int32)), (.int (Int32.ofNat tn)), (.int (Int32.ofNat fn)), (.ref b1), (.int (p1 &&& (7 : Int32))), (.ref b22), (.ref b22)])) (fun _ k => XS.iload X22.here hx rfl (hb hby at_93) rfl k) ?_
    obtain ⟨_, _, ⟨T29, L29, k29, n29⟩, -, X29, ⟨Lc29, hQ29, l29, y29, z29⟩, st29⟩ := X22.specialBack hx (y := (⟨"com/example/assayline/assayline/Frame", "<init>", "(I[BIIZ)V"⟩ : MethodName)) rfl hown (mvT hZ (hw _ (List.mem_of_getElem? (i := 5) rfl))) (mvT hZ (hw _ (List.mem_of_getElem? (i := 6) rfl))) (mvT hZ (hw _ (List.mem_of_getElem? (i := 7) rfl))) (by decide) (backOf (W := 1) (rm1 l Z a0 hw [] b22 (p1 &&& (7 : Int32)) b1 (Int32.ofNat fn) (Int32.ofNat tn) (0 : Int32) fn tn (fun i_ => if i_ = 3 then nar .byte ((((q2.toUInt64 >>> ((24 : Int32) &&& 0x3f).toInt64.toUInt64).toInt64).toInt32).toInt8.toInt32) else (fun i_ => if i_ = 2 then nar .byte ((((q2.toUInt64 >>> ((16 : Int32) &&& 0x3f).toInt64.toUInt64).toInt64).toInt32).toInt8.toInt32) else (fun i_ => if i_ = 1 then nar .byte ((((q2.toUInt64 >>> ((8 : Int32) &&& 0x3f).toInt64.toUInt64).toInt64).toInt32).toInt8.toInt32) else (fun i_ => if i_ = 0 then nar .byte ((q2.toInt32).toInt8.toInt32) else (fun _ => 0) i_) i_) i_) i_) hx_ cx_ h22 n0 z27 A22 F28 g24 f26 ne23 (own_num7 p1) rfl rfl ⟨hft1, hft2⟩ f25 Sx Tx) hZ (hw _ (List.mem_of_getElem? (i := 7) rfl)) (hw _ (List.mem_of_getElem? (i := 4) rfl)) (by decide) (by decide)) (g := (mkF m 95 #[.val (.int p1), .val (.long q2), .second, .val (.int p3), .val (.int p4), .val (.int p5), .val (.ref b1), .val (.int (Int32.ofNat fn)), .val (.int (Int32.ofNat tn)), .val (.int (0 : Int32)), .unset] [(.int (0 : Int32)), (.int (Int32.ofNat tn)), (.int (Int32.ofNat fn)), (.ref b1), (.int (p1 &&& (7 : Int32))), (.ref b22), (.ref b22)])) rfl (by rw [hml]; rfl) (Steps.refl _) (a := b22) (argsL := [(.int (p1 &&& (7 : Int32))), (.ref b1), (.int (Int32.ofNat fn)), (.int (Int32.ofNat tn)), (.int (0 : Int32))]) (rest := [(.ref b22)]) (lenOf pd_4 rfl) rfl (by show 2 * 0 + _ ≤ _; exact Nat.le_of_eq rfl) (hb hby at_95) (fun _ _ => ⟨rfl, e22, (by decide : 2 + 1 ≤ _), (by decide : 5 + 11 ≤ _)⟩)
    dsimp only [Pt.U, Pt.locs, Pt.cells, Pt.slots] at X29 l29 y29 z29 st29 hQ29
    subst l29 y29 z29
    obtain ⟨rfl, N29q, K29, bb29, nn29, g29, Fb29, hn129, hn229, Vb29, hv29⟩ := hQ29
    have N30 := Fr.app N19 N29q
    have f31 := f25.keep K29 (allS g24 all0)
    have f32 := f26.keep K29 (ninS ne23 nin0)
    have f33 := A22.keep K29
    have z34 := Nat.le_trans z27 K29.1
    refine Go.via (S' := T29.setTop (mkF m 98 #[.val (.int p1), .val (.long q2), .second, .val (.int p3), .val (.int p4), .val (.int p5), .val (.ref b1), .val (.int (Int32.ofNat fn)), .val (.int (Int32.ofNat tn)), .val (.int (0 : Int32)), .unset] [(.ref b22)])) (fun _ k => st29.trans k) ?_
    refine Go.via (S' := T29.setTop (mkF m 100 #[.val (.int p1), .val (.long q2), .second, .val (.int p3), .val (.int p4), .val (.int p5), .val (.ref b1), .val (.int (Int32.ofNat fn)), .val (.int (Int32.ofNat tn)), .val (.int (0 : Int32)), .val (.ref b22)] [])) (fun _ k => XS.astore X29.here hx rfl (hb hby at_98) rfl rfl (l' := #[.val (.int p1), .val (.long q2), .second, .val (.int p3), .val (.int p4), .val (.int p5), .val (.ref b1), .val (.int (Int32.ofNat fn)), .val (.int (Int32.ofNat tn)), .val (.int (0 : Int32)), .val (.ref b22)]) rfl k) ?_
    refine Go.via (S' := T29.setTop (mkF m 102 #[.val (.int p1), .val (.long q2), .second, .val (.int p3), .val (.int p4), .val (.int p5), .val (.ref b1), .val (.int (Int32.ofNat fn)), .val (.int (Int32.ofNat tn)), .val (.int (0 : Int32)), .val (.ref b22)] [(.ref b22)])) (fun _ k => XS.aload X29.here hx rfl (hb hby at_100) rfl rfl k) ?_
    obtain ⟨cq35, kq35, q35a, q35b, q35c⟩ := isOf hZ rfl f33
    obtain ⟨_, _, ⟨T35, L35, k35, n35⟩, -, X35, ⟨Lc35, hQ35, l35, y35, z35⟩, st35⟩ := X29.virtualBack hx (y := (⟨"com/example/assayline/assayline/Frame", "intermediate", "()Z"⟩ : MethodName)) (z := (⟨"com/example/assayline/assayline/Frame", "intermediate", "()Z"⟩ : MethodName)) hown (mvT hZ (hw _ (List.mem_of_getElem? (i := 34) rfl))) (mvT hZ (hw _ (List.mem_of_getElem? (i := 35) rfl))) (notFace_of_selects (args := #[]) (mvT hZ (hw _ (List.mem_of_getElem? (i := 37) rfl)))) (mvT hZ (hw _ (List.mem_of_getElem? (i := 37) rfl))) (mvT hZ (hw _ (List.mem_of_getElem? (i := 36) rfl))) (by decide) (backOf (W := 0) (rm7 l Z a0 hw [] b22 bb29 nn29 g29 T29.heap n0 z34 Fb29 Vb29 ⟨hn129, hn229⟩) hZ (hw _ (List.mem_of_getElem? (i := 38) rfl)) (hw _ (List.mem_of_getElem? (i := 4) rfl)) (by decide) (by decide)) q35a q35c (g := (mkF m 102 #[.val (.int p1), .val (.long q2), .second, .val (.int p3), .val (.int p4), .val (.int p5), .val (.ref b1), .val (.int (Int32.ofNat fn)), .val (.int (Int32.ofNat tn)), .val (.int (0 : Int32)), .val (.ref b22)] [(.ref b22)])) rfl (by rw [hml]; rfl) (Steps.refl _) (argsL := []) (rest := []) (lenOf pd_5 rfl) rfl (by show 2 * 0 + _ ≤ _; exact Nat.le_of_eq rfl) (hb hby at_102) (fun _ _ => ⟨rfl, rfl, (by decide : 3 + 0 ≤ _), (by decide : 16 + 0 ≤ _)⟩)
    dsimp only [Pt.U, Pt.locs, Pt.cells, Pt.slots] at X35 l35 y35 z35 st35 hQ35
    subst l35 y35 z35
    obtain ⟨r35, rfl, N35q, e35, hr35⟩ := hQ35
    have N36 := Fr.app N30 N35q
    refine Go.via (S' := T35.setTop (mkF m 105 #[.val (.int p1), .val (.long q2), .second, .val (.int p3), .val (.int p4), .val (.int p5), .val (.ref b1), .val (.int (Int32.ofNat fn)), .val (.int (Int32.ofNat tn)), .val (.int (0 : Int32)), .val (.ref b22)] [(.int r35)])) (fun _ k => st35.trans k) ?_
    rcases hr35 with ⟨rfl, hB⟩ | ⟨rfl, hB⟩
    · refine Go.via (S' := T35.setTop (mkF m 107 #[.val (.int p1), .val (.long q2), .second, .val (.int p3), .val (.int p4), .val (.int p5), .val (.ref b1), .val (.int (Int32.ofNat fn)), .val (.int (Int32.ofNat tn)), .val (.int (0 : Int32)), .val (.ref b22)] [(.int (0 : Int32)), (.int (1 : Int32))])) (fun _ k => XS.iload X35.here hx rfl (hb hby at_105) rfl k) ?_
      refine Go.via (S' := T35.setTop (mkF m 114 #[.val (.int p1), .val (.long q2), .second, .val (.int p3), .val (.int p4), .val (.int p5), .val (.ref b1), .val (.int (Int32.ofNat fn)), .val (.int (Int32.ofNat tn)), .val (.int (0 : Int32)), .val (.ref b22)] [])) (fun _ k => XS.icmpYes X35.here hx rfl (pc0 := 107) (pc' := 114) rfl (hb hby at_107) rfl (feq (by decide)).2 (by decide) (by decide) k) ?_
      exfalso
      rcases hv29 with ⟨q1, q2⟩ | ⟨q1, q2⟩
      all_goals first | (exact absurd q1 (by decide)) | (exact q1 rfl) | (rw [q2] at hB; revert hB; decide)
    · refine Go.via (S' := T35.setTop (mkF m 107 #[.val (.int p1), .val (.long q2), .second, .val (.int p3), .val (.int p4), .val (.int p5), .val (.ref b1), .val (.int (Int32.ofNat fn)), .val (.int (Int32.ofNat tn)), .val (.int (0 : Int32)), .val (.ref b22)] [(.int (0 : Int32)), (.int (0 : Int32))])) (fun _ k => XS.iload X35.here hx rfl (hb hby at_105) rfl k) ?_
      refine Go.via (S' := T35.setTop (mkF m 110 #[.val (.int p1), .val (.long q2), .second, .val (.int p3), .val (.int p4), .val (.int p5), .val (.ref b1), .val (.int (Int32.ofNat fn)), .val (.int (Int32.ofNat tn)), .val (.int (0 : Int32)), .val (.ref b22)] [])) (fun _ k => XS.icmpNo X35.here hx rfl (hb hby at_107) rfl (teq (by decide)).2 k) ?_
      refine Go.via (S' := T35.setTop (mkF m 111 #[.val (.int p1), .val (.long q2), .second, .val (.int p3), .val (.int p4), .val (.int p5), .val (.ref b1), .val (.int (Int32.ofNat fn)), .val (.int (Int32.ofNat tn)), .val (.int (0 : Int32)), .val (.ref b22)] [(.int (1 : Int32))])) (fun _ k => XS.iconst X35.here hx rfl (hb hby at_110) k) ?_
      refine Go.via (S' := T35.setTop (mkF m 115 #[.val (.int p1), .val (.long q2), .second, .val (.int p3), .val (.int p4), .val (.int p5), .val (.ref b1), .val (.int (Int32.ofNat fn)), .val (.int (Int32.ofNat tn)), .val (.int (0 : Int32)), .val (.ref b22)] [(.int (1 : Int32))])) (fun _ k => XS.goto X35.here hx rfl (pc0 := 111) (pc' := 115) rfl (hb hby at_111) (by decide) (by decide) k) ?_
      exact Go.retB X35 hx (BodyLoose.notSynchronized Bd) Bd.returns (hb hby at_115) rfl (by rw [e35]; exact ⟨rfl, N36⟩) (by decide) (by decide)
  · refine Go.via (S' := T18.setTop (mkF m 72 #[.val (.int p1), .val (.long q2), .second, .val (.int p3), .val (.int p4), .val (.int p5), .val (.ref b1), .val (.int (Int32.ofNat fn)), .val (.int (Int32.ofNat tn)), .unset, .unset] [])) (fun _ k => XS.ifNo X18.here hx rfl (hb hby at_69) rfl ((if0 _ _).trans (feq hc69).1) k) ?_
    refine Go.via (S' := T18.setTop (mkF m 73 #[.val (.int p1), .val (.long q2), .second, .val (.int p3), .val (.int p4), .val (.int p5), .val (.ref b1), .val (.int (Int32.ofNat fn)), .val (.int (Int32.ofNat tn)), .unset, .unset] [(.int (1 : Int32))])) (fun _ k => XS.iconst X18.here hx rfl (hb hby at_72) k) ?_
    refine Go.via (S' := T18.setTop (mkF m 77 #[.val (.int p1), .val (.long q2), .second, .val (.int p3), .val (.int p4), .val (.int p5), .val (.ref b1), .val (.int (Int32.ofNat fn)), .val (.int (Int32.ofNat tn)), .unset, .unset] [(.int (1 : Int32))])) (fun _ k => XS.goto X18.here hx rfl (pc0 := 73) (pc' := 77) rfl (hb hby at_73) (by decide) (by decide) k) ?_
    refine Go.via (S' := T18.setTop (mkF m 79 #[.val (.int p1), .val (.long q2), .second, .val (.int p3), .val (.int p4), .val (.int p5), .val (.ref b1), .val (.int (Int32.ofNat fn)), .val (.int (Int32.ofNat tn)), .val (.int (1 : Int32)), .unset] [])) (fun _ k => XS.istore X18.here hx rfl (hb hby at_77) rfl (l' := #[.val (.int p1), .val (.long q2), .second, .val (.int p3), .val (.int p4), .val (.int p5), .val (.ref b1), .val (.int (Int32.ofNat fn)), .val (.int (Int32.ofNat tn)), .val (.int (1 : Int32)), .unset]) rfl k) ?_
    obtain ⟨T37, h37, X37, e37, E37, A37, D37, -, st37⟩ := newO X18 hx hZ hown (hw _ (List.mem_of_getElem? (i := 2) rfl)) (hw _ (List.mem_of_getElem? (i := 3) rfl)) (hw _ (List.mem_of_getElem? (i := 4) rfl)) e18 (g := (mkF m 79 #[.val (.int p1), .val (.long q2), .second, .val (.int p3), .val (.int p4), .val (.int p5), .val (.ref b1), .val (.int (Int32.ofNat fn)), .val (.int (Int32.ofNat tn)), .val (.int (1 : Int32)), .unset] [])) rfl (hb hby at_79) (by decide) (by decide)
    obtain ⟨b37, g37⟩ : ∃ z, z = h18.size := ⟨_, rfl⟩
    rw [← g37] at A37 D37 st37
    have ne38 : b1 ≠ b37 := Nat.ne_of_lt (Nat.lt_of_lt_of_le V18.lt (Nat.le_of_eq g37.symm))
    have g39 : n0 ≤ b37 := Nat.le_trans z21 (Nat.le_of_eq g37.symm)
    have f40 := f20.ext E37
    have f41 := V18.ext E37
    have z42 := Nat.le_trans z21 E37.1
    have F43 : Fld Z h37 b37 "com/example/assayline/assayline/Frame" "bytes" "[B" .null := D37 (Or.inr (hw _ (List.mem_of_getElem? (i := 21) rfl))) (ty := (.array .byte)) (by decide)
    refine Go.via (S' := T37.setTop (mkF m 82 #[.val (.int p1), .val (.long q2), .second, .val (.int p3), .val (.int p4), .val (.int p5), .val (.ref b1), .val (.int (Int32.ofNat fn)), .val (.int (Int32.ofNat tn)), .val (.int (1 : Int32)), .unset] [(.ref b37)])) (fun _ k => st37 _ k) ?_
    refine Go.via (S' := T37.setTop (mkF m 83 #[.val (.int p1), .val (.long q2), .second, .val (.int p3), .val (.int p4), .val (.int p5), .val (.ref b1), .val (.int (Int32.ofNat fn)), .val (.int (Int32.ofNat tn)), .val (.int (1 : Int32)), .unset] [(.ref b37), (.ref b37)])) (fun _ k => XS.dup X37.here hx rfl (hb hby at_82) rfl rfl k) ?_
    refine Go.via (S' := T37.setTop (mkF m 84 #[.val (.int p1), .val (.long q2), .second, .val (.int p3), .val (.int p4), .val (.int p5), .val (.ref b1), .val (.int (Int32.ofNat fn)), .val (.int (Int32.ofNat tn)), .val (.int (1 : Int32)), .unset] [(.int p1), (.ref b37), (.ref b37)])) (fun _ k => XS.iloadN X37.here hx rfl (hb hby at_83) rfl k) ?_
    refine Go.via (S' := T37.setTop (mkF m 86 #[.val (.int p1), .val (.long q2), .second, .val (.int p3), .val (.int p4), .val (.int p5), .val (.ref b1), .val (.int (Int32.ofNat fn)), .val (.int (Int32.ofNat tn)), .val (.int (1 : Int32)), .unset] [(.int (7 : Int32)), (.int p1), (.ref b37), (.ref b37)])) (fun _ k => XS.bipush X37.here hx rfl (hb hby at_84) k) ?_
    refine Go.via (S' := T37.setTop (mkF m 87 #[.val (.int p1), .val (.long q2), .second, .val (.int p3), .val (.int p4), .val (.int p5), .val (.ref b1), .val (.int (Int32.ofNat fn)), .val (.int (Int32.ofNat tn)), .val (.int (1 : Int32)), .unset] [(.int (p1 &&& (7 : Int32))), (.ref b37), (.ref b37)])) (fun _ k => XS.iand X37.here hx rfl (hb hby at_86) rfl k) ?_
    refine Go.via (S' := T37.setTop (mkF m 89 #[.val (.int p1), .val (.long q2), .second, .val (.int p3), .val (.int p4), .val (.int p5), .val (.ref b1), .val (.int (Int32.ofNat fn)), .val (.int (Int32.ofNat tn)), .val (.int (1 : Int32)), .unset] [(.ref b1), (.int (p1 &&& (7 : Int32))), (.ref b37), (.ref b37)])) (fun _ k => XS.aload X37.here hx rfl (hb hby at_87) rfl rfl k) ?_
    refine Go.via (S' := T37.setTop (mkF m 91 #[.val (.int p1), .val (.long q2), .second, .val (.int p3), .val (.int p4), .val (.int p5), .val (.ref b1), .val (.int (Int32.ofNat fn)), .val (.int (Int32.ofNat tn)), .val (.int (1 : Int32)), .unset] [(.int (Int32.ofNat fn)), (.ref b1), (.int (p1 &&& (7 : Int32))), (.ref b37), (.ref b37)])) (fun _ k => XS.iload X37.here hx rfl (hb hby at_89) rfl k) ?_
    refine Go.via (S' := T37.setTop (mkF m 93 #[.val (.int p1), .val (.long q2), .second, .val (.int p3), .val (.int p4), .val (.int p5), .val (.ref b1), .val (.int (Int32.ofNat fn)), .val (.int (Int32.ofNat tn)), .val (.int (1 : Int32)), .unset] [(.int (Int32.ofNat tn)), (.int (Int32.ofNat fn)), (.ref b1), (.int (p1 &&& (7 : Int32))), (.ref b37), (.ref b37)])) (fun _ k => XS.iload X37.here hx rfl (hb hby at_91) rfl k) ?_
    refine Go.via (S' := T37.setTop (mkF m 95 #[.val (.int p1), .val (.long q2), .second, .val (.int p3), .val (.int p4), .val (.int p5), .val (.ref b1), .val (.int (Int32.ofNat fn)), .val (.int (Int32.ofNat tn)), .val (.int (1 : Int32)), .unset] [(.int (1 : Int32)), (.int (Int32.ofNat tn)), (.int (Int32.ofNat fn)), (.ref b1), (.int (p1 &&& (7 : Int32))), (.ref b37), (.ref b37)])) (fun _ k => XS.iload X37.here hx rfl (hb hby at_93) rfl k) ?_
    obtain ⟨_, _, ⟨T44, L44, k44, n44⟩, -, X44, ⟨Lc44, hQ44, l44, y44, z44⟩, st44⟩ := X37.specialBack hx (y := (⟨"com/example/assayline/assayline/Frame", "<init>", "(I[BIIZ)V"⟩ : MethodName)) rfl hown (mvT hZ (hw _ (List.mem_of_getElem? (i := 5) rfl))) (mvT hZ (hw _ (List.mem_of_getElem? (i := 6) rfl))) (mvT hZ (hw _ (List.mem_of_getElem? (i := 7) rfl))) (by decide) (backOf (W := 1) (rm1 l Z a0 hw [] b37 (p1 &&& (7 : Int32)) b1 (Int32.ofNat fn) (Int32.ofNat tn) (1 : Int32) fn tn (fun i_ => if i_ = 3 then nar .byte ((((q2.toUInt64 >>> ((24 : Int32) &&& 0x3f).toInt64.toUInt64).toInt64).toInt32).toInt8.toInt32) else (fun i_ => if i_ = 2 then nar .byte ((((q2.toUInt64 >>> ((16 : Int32) &&& 0x3f).toInt64.toUInt64).toInt64).toInt32).toInt8.toInt32) else (fun i_ => if i_ = 1 then nar .byte ((((q2.toUInt64 >>> ((8 : Int32) &&& 0x3f).toInt64.toUInt64).toInt64).toInt32).toInt8.toInt32) else (fun i_ => if i_ = 0 then nar .byte ((q2.toInt32).toInt8.toInt32) else (fun _ => 0) i_) i_) i_) i_) hx_ cx_ h37 n0 z42 A37 F43 g39 f41 ne38 (own_num7 p1) rfl rfl ⟨hft1, hft2⟩ f40 Sx Tx) hZ (hw _ (List.mem_of_getElem? (i := 7) rfl)) (hw _ (List.mem_of_getElem? (i := 4) rfl)) (by decide) (by decide)) (g := (mkF m 95 #[.val (.int p1), .val (.long q2), .second, .val (.int p3), .val (.int p4), .val (.int p5), .val (.ref b1), .val (.int (Int32.ofNat fn)), .val (.int (Int32.ofNat tn)), .val (.int (1 : Int32)), .unset] [(.int (1 : Int32)), (.int (Int32.ofNat tn)), (.int (Int32.ofNat fn)), (.ref b1), (.int (p1 &&& (7 : Int32))), (.ref b37), (.ref b37)])) rfl (by rw [hml]; rfl) (Steps.refl _) (a := b37) (argsL := [(.int (p1 &&& (7 : Int32))), (.ref b1), (.int (Int32.ofNat fn)), (.int (Int32.ofNat tn)), (.int (1 : Int32))]) (rest := [(.ref b37)]) (lenOf pd_4 rfl) rfl (by show 2 * 0 + _ ≤ _; exact Nat.le_of_eq rfl) (hb hby at_95) (fun _ _ => ⟨rfl, e37, (by decide : 2 + 1 ≤ _), (by decide : 5 + 11 ≤ _)⟩)
    dsimp only [Pt.U, Pt.locs, Pt.cells, Pt.slots] at X44 l44 y44 z44 st44 hQ44
    subst l44 y44 z44
    obtain ⟨rfl, N44q, K44, bb44, nn44, g44, Fb44, hn144, hn244, Vb44, hv44⟩ := hQ44
    have N45 := Fr.app N19 N44q
    have f46 := f40.keep K44 (allS g39 all0)
    have f47 := f41.keep K44 (ninS ne38 nin0)
    have f48 := A37.keep K44
    have z49 := Nat.le_trans z42 K44.1
    refine Go.via (S' := T44.setTop (mkF m 98 #[.val (.int p1), .val (.long q2), .second, .val (.int p3), .val (.int p4), .val (.int p5), .val (.ref b1), .val (.int (Int32.ofNat fn)), .val (.int (Int32.ofNat tn)), .val (.int (1 : Int32)), .unset] [(.ref b37)])) (fun _ k => st44.trans k) ?_
    refine Go.via (S' := T44.setTop (mkF m 100 #[.val (.int p1), .val (.long q2), .second, .val (.int p3), .val (.int p4), .val (.int p5), .val (.ref b1), .val (.int (Int32.ofNat fn)), .val (.int (Int32.ofNat tn)), .val (.int (1 : Int32)), .val (.ref b37)] [])) (fun _ k => XS.astore X44.here hx rfl (hb hby at_98) rfl rfl (l' := #[.val (.int p1), .val (.long q2), .second, .val (.int p3), .val (.int p4), .val (.int p5), .val (.ref b1), .val (.int (Int32.ofNat fn)), .val (.int (Int32.ofNat tn)), .val (.int (1 : Int32)), .val (.ref b37)]) rfl k) ?_
    refine Go.via (S' := T44.setTop (mkF m 102 #[.val (.int p1), .val (.long q2), .second, .val (.int p3), .val (.int p4), .val (.int p5), .val (.ref b1), .val (.int (Int32.ofNat fn)), .val (.int (Int32.ofNat tn)), .val (.int (1 : Int32)), .val (.ref b37)] [(.ref b37)])) (fun _ k => XS.aload X44.here hx rfl (hb hby at_100) rfl rfl k) ?_
    obtain ⟨cq50, kq50, q50a, q50b, q50c⟩ := isOf hZ rfl f48
    obtain ⟨_, _, ⟨T50, L50, k50, n50⟩, -, X50, ⟨Lc50, hQ50, l50, y50, z50⟩, st50⟩ := X44.virtualBack hx (y := (⟨"com/example/assayline/assayline/Frame", "intermediate", "()Z"⟩ : MethodName)) (z := (⟨"com/example/assayline/assayline/Frame", "intermediate", "()Z"⟩ : MethodName)) hown (mvT hZ (hw _ (List.mem_of_getElem? (i := 34) rfl))) (mvT hZ (hw _ (List.mem_of_getElem? (i := 35) rfl))) (notFace_of_selects (args := #[]) (mvT hZ (hw _ (List.mem_of_getElem? (i := 37) rfl)))) (mvT hZ (hw _ (List.mem_of_getElem? (i := 37) rfl))) (mvT hZ (hw _ (List.mem_of_getElem? (i := 36) rfl))) (by decide) (backOf (W := 0) (rm7 l Z a0 hw [] b37 bb44 nn44 g44 T44.heap n0 z49 Fb44 Vb44 ⟨hn144, hn244⟩) hZ (hw _ (List.mem_of_getElem? (i := 38) rfl)) (hw _ (List.mem_of_getElem? (i := 4) rfl)) (by decide) (by decide)) q50a q50c (g := (mkF m 102 #[.val (.int p1), .val (.long q2), .second, .val (.int p3), .val (.int p4), .val (.int p5), .val (.ref b1), .val (.int (Int32.ofNat fn)), .val (.int (Int32.ofNat tn)), .val (.int (1 : Int32)), .val (.ref b37)] [(.ref b37)])) rfl (by rw [hml]; rfl) (Steps.refl _) (argsL := []) (rest := []) (lenOf pd_5 rfl) rfl (by show 2 * 0 + _ ≤ _; exact Nat.le_of_eq rfl) (hb hby at_102) (fun _ _ => ⟨rfl, rfl, (by decide : 3 + 0 ≤ _), (by decide : 16 + 0 ≤ _)⟩)
    dsimp only [Pt.U, Pt.locs, Pt.cells, Pt.slots] at X50 l50 y50 z50 st50 hQ50
    subst l50 y50 z50
    obtain ⟨r50, rfl, N50q, e50, hr50⟩ := hQ50
    have N51 := Fr.app N45 N50q
    refine Go.via (S' := T50.setTop (mkF m 105 #[.val (.int p1), .val (.long q2), .second, .val (.int p3), .val (.int p4), .val (.int p5), .val (.ref b1), .val (.int (Int32.ofNat fn)), .val (.int (Int32.ofNat tn)), .val (.int (1 : Int32)), .val (.ref b37)] [(.int r50)])) (fun _ k => st50.trans k) ?_
    rcases hr50 with ⟨rfl, hB⟩ | ⟨rfl, hB⟩
    · refine Go.via (S' := T50.setTop (mkF m 107 #[.val (.int p1), .val (.long q2), .second, .val (.int p3), .val (.int p4), .val (.int p5), .val (.ref b1), .val (.int (Int32.ofNat fn)), .val (.int (Int32.ofNat tn)), .val (.int (1 : Int32)), .val (.ref b37)] [(.int (1 : Int32)), (.int (1 : Int32))])) (fun _ k => XS.iload X50.here hx rfl (hb hby at_105) rfl k) ?_
      refine Go.via (S' := T50.setTop (mkF m 110 #[.val (.int p1), .val (.long q2), .second, .val (.int p3), .val (.int p4), .val (.int p5), .val (.ref b1), .val (.int (Int32.ofNat fn)), .val (.int (Int32.ofNat tn)), .val (.int (1 : Int32)), .val (.ref b37)] [])) (fun _ k => XS.icmpNo X50.here hx rfl (hb hby at_107) rfl (teq (by decide)).2 k) ?_
      refine Go.via (S' := T50.setTop (mkF m 111 #[.val (.int p1), .val (.long q2), .second, .val (.int p3), .val (.int p4), .val (.int p5), .val (.ref b1), .val (.int (Int32.ofNat fn)), .val (.int (Int32.ofNat tn)), .val (.int (1 : Int32)), .val (.ref b37)] [(.int (1 : Int32))])) (fun _ k => XS.iconst X50.here hx rfl (hb hby at_110) k) ?_
      refine Go.via (S' := T50.setTop (mkF m 115 #[.val (.int p1), .val (.long q2), .second, .val (.int p3), .val (.int p4), .val (.int p5), .val (.ref b1), .val (.int (Int32.ofNat fn)), .val (.int (Int32.ofNat tn)), .val (.int (1 : Int32)), .val (.ref b37)] [(.int (1 : Int32))])) (fun _ k => XS.goto X50.here hx rfl (pc0 := 111) (pc' := 115) rfl (hb hby at_111) (by decide) (by decide) k) ?_
      exact Go.retB X50 hx (BodyLoose.notSynchronized Bd) Bd.returns (hb hby at_115) rfl (by rw [e50]; exact ⟨rfl, N51⟩) (by decide) (by decide)
    · refine Go.via (S' := T50.setTop (mkF m 107 #[.val (.int p1), .val (.long q2), .second, .val (.int p3), .val (.int p4), .val (.int p5), .val (.ref b1), .val (.int (Int32.ofNat fn)), .val (.int (Int32.ofNat tn)), .val (.int (1 : Int32)), .val (.ref b37)] [(.int (1 : Int32)), (.int (0 : Int32))])) (fun _ k => XS.iload X50.here hx rfl (hb hby at_105) rfl k) ?_
      refine Go.via (S' := T50.setTop (mkF m 114 #[.val (.int p1), .val (.long q2), .second, .val (.int p3), .val (.int p4), .val (.int p5), .val (.ref b1), .val (.int (Int32.ofNat fn)), .val (.int (Int32.ofNat tn)), .val (.int (1 : Int32)), .val (.ref b37)] [])) (fun _ k => XS.icmpYes X50.here hx rfl (pc0 := 107) (pc' := 114) rfl (hb hby at_107) rfl (feq (by decide)).2 (by decide) (by decide) k) ?_
      exfalso
      rcases hv44 with ⟨q1, q2⟩ | ⟨q1, q2⟩
      all_goals first | (exact absurd q1 (by decide)) | (exact q1 rfl) | (rw [q2] at hB; revert hB; decide)
set_option maxRecDepth 65536 in
set_option maxHeartbeats 40000000 in
theorem comes_1 {Post : Tables → Env → Array Value → State → Outcome → State → Prop} (hpost : ∀ tb e args s v u, (limb_1_1.after args s (.returned v) u = true ∧ limb_1_2.after args s (.returned v) u = true ∧ True) → FrameEnd s (.returned v) u (Jvm.fieldLocs frame_1_writes args s ++ Jvm.arrayLocs frame_1_arrays args s ++ Jvm.staticLocs frame_1_statics s) 16 128 → Post tb e args s (.returned v) u) :
    ArmFor flags0 classFile x code maxLocals ret World_1 tables_1 room_1 Calls_1 rest_1 Pre_1 Post := by
  intro l hfl _ _ p e ha hc hk s m args below hf hA hF happ hP
  obtain ⟨hcalls, hrest, hpre⟩ := hP
  obtain ⟨-, -, -, hnamed, -, -, -, hat⟩ := (Spec.applies_iff hf).mp happ
  obtain ⟨hg, hn⟩ := and_e (Cond.before_iff.mp (show (Jvm.Cond.and given_1 narrow_1).before args s = true from hpre))
  obtain ⟨gg0, hg0⟩ := and_e hg
  obtain ⟨gg1, hg1⟩ := and_e hg0
  obtain ⟨gg2, hg2⟩ := and_e hg1
  obtain ⟨gg3, hg3⟩ := and_e hg2
  obtain ⟨gg4, hg4⟩ := and_e hg3
  obtain ⟨w0, w1, w2, w3, w4, rfl⟩ : ∃ w0 w1 w2 w3 w4 : Value, args = #[w0, w1, w2, w3, w4] := by
    have hs : args.size = 5 := by simpa [Cond.value, given_1] using gg0
    obtain ⟨L⟩ := args
    match L, hs with
    | [w0, w1, w2, w3, w4], _ => exact ⟨w0, w1, w2, w3, w4, rfl⟩
  have hw := fun d (hd : d ∈ tables_1) => atoms_spec (ws := Jvm.Cond.code x code maxLocals ret :: tables_1) hat d (List.mem_cons_of_mem _ hd)
  have hfit : Fit s := fun {y c} hc i hi => by
    obtain ⟨ha, rfl⟩ := Array.getElem?_eq_some_iff.mp hc
    have q := List.all_eq_true.mp ((Array.all_eq_true_iff_forall_mem.mp hF) _ (Array.getElem_mem ha)) i (List.mem_range.mpr hi)
    simpa [Array.getElem?_eq_getElem hi] using q
  obtain ⟨i0, ei0⟩ := is_v gg1
  obtain rfl : w0 = (.int i0) := Option.some.inj ei0
  obtain ⟨i1, ei1⟩ := isL_v gg2
  obtain rfl : w1 = (.long i1) := Option.some.inj ei1
  obtain ⟨i2, ei2⟩ := is_v gg3
  obtain rfl : w2 = (.int i2) := Option.some.inj ei2
  obtain ⟨i3, ei3⟩ := is_v gg4
  obtain rfl : w3 = (.int i3) := Option.some.inj ei3
  obtain ⟨i4, ei4⟩ := is_v hg4
  obtain rfl : w4 = (.int i4) := Option.some.inj ei4
  obtain ⟨n1, n2⟩ := and_e hn
  obtain ⟨n3, n4⟩ := and_e n2
  obtain ⟨hx_, eh⟩ := arr_v n1
  have Sx := Sta.start eh (Or.inr ⟨hw _ (List.mem_of_getElem? (i := 4) rfl), hw _ (List.mem_of_getElem? (i := 33) rfl)⟩)
  obtain ⟨cx_, Ax⟩ := Arr.start eh n1
  have hl := eqv_i (Term.int_eval (16)) n3
  have hl2 := own_len eh (Ax.fin (Vm.Alike.refl _)) hl
  have Tx := Tab.start hfit Ax (Or.inr (Or.inr (Or.inl rfl))) hl2.1 hl2.2 (by decide)
  obtain ⟨n, o, h1, h2, h3, _, L, rfl, ⟨rfl, N⟩, hq⟩ := rm0 l s _ hw tables_1 i0 i1 i2 i3 i4 hx_ cx_ s.heap s.heap.size (Nat.le_refl _) (Old.start s) Sx Tx p e ha hc hk s m _ below hf ((Spec.applies_iff_loose hf).mp happ).1 ⟨rfl, State.Warmed39.refl s, rfl⟩ trivial
  refine ⟨n, _, h1, h2, h3, hpost _ _ _ _ _ _ ⟨Cond.after_iff.mpr rfl, Cond.after_iff.mpr (eq_i res_at (Term.int_eval (1)) rfl), trivial⟩ ⟨hq.1, hq.2.1, (hq.2.2.sift fun y hy => Or.inr (N y hy)).mono (by decide) (by decide)⟩⟩
theorem main_1_1 : Claimed_1_1 := comes_1 fun _ _ _ _ _ _ h hF => ⟨h.1, hF⟩
theorem main_1_2 : Claimed_1_2 := comes_1 fun _ _ _ _ _ _ h hF => ⟨h.2.1, hF⟩
end Jvm.Pilot.@@N@@
namespace Jvm.Pilot.@@N@@
open Jvm Jvm.ClassFile Sem Op Lib Jvm.Free Jvm.Stand Jvm.Pilot.@@N@@.Jvm.D
/-! MADE BY PROGRAM (witnessworld.py) out of the Statement's table words and the real class files: 12 classes; the members and pool entries that the words name. The judged class is class 1, her method 1. -/
namespace start1
open Jvm.ClassFile
def u (s : String) : CpInfo := .utf8 (stringToUtf16 s)
/-- a pool by its gaps: so many unusable entries, then the entry; so many at the end -/
def gap : Nat → List CpInfo → List CpInfo
  | 0, r => r
  | n + 1, r => .unusable :: gap n r
def poolList (es : List (Nat × CpInfo)) (last : Nat) : List CpInfo := es.foldr (fun e r => gap e.1 (e.2 :: r)) (gap last [])
def pool (es : List (Nat × CpInfo)) (last : Nat) : Array CpInfo := ⟨poolList es last⟩
def fileOf (pool : Array CpInfo) (this : Nat) (attrs : Array Attribute := #[]) (ms : Array MethodInfo := #[]) (fl : Nat := 33) (sup : Nat := 0) (ifs : Array Nat := #[]) (fds : Array FieldInfo := #[]) : ClassFile where
  minorVersion := 0
  majorVersion := 65
  constantPool := pool
  accessFlags := fl
  thisClass := this
  superClass := sup
  interfaces := ifs
  fields := fds
  methods := ms
  attributes := attrs
def plain (name : String) (sup : Option ClassId) : Class where
  name := name
  kind := .ordinary
  loader := none
  accessFlags := 33
  super := sup
  interfaces := #[]
  cf := none
  fields := #[]
  methods := #[]
  instanceTypes := #[]
  staticTypes := #[]
  resolved := #[]
  callSites := []
  init := .initialized
  statics := none
  mirror := none

def pool0 : Array CpInfo := pool [(5, u "<init>"), (0, u "()V"), (1, .class_ 10), (1, u "java/lang/Object")] 113

def k0c0 : Code := { maxStack := 0, maxLocals := 1, code := object_method_1_code, exceptionTable := #[], attributes := #[] }
def k0m0 : Method := { name := "<init>", desc := "()V", sig := { parameters := [], returnType := none }, accessFlags := 1, code := some k0c0 }
/-- java/lang/Object -/
def k0 : Class := { plain "java/lang/Object" none with
  accessFlags := 33
  interfaces := #[]
  cf := some (fileOf pool0 8 #[] #[{ accessFlags := 1, nameIndex := 5, descriptorIndex := 6, attributes := #[] }] 33 0 #[] #[])
  fields := #[]
  methods := #[k0m0]
  instanceTypes := #[]
  staticTypes := #[]
  resolved := Array.replicate 124 none
  statics := none }

def pool1 : Array CpInfo := pool [(2, .class_ 4), (1, u "java/lang/Object"), (0, u "<init>"), (0, u "()V"), (0, .integer 2147483647), (0, .class_ 9), (0, u "com/example/assayline/assayline/Frame"), (0, .methodref 8 11), (0, .nameAndType 5 12), (0, u "(I[BIIZ)V"), (0, .methodref 8 14), (0, .nameAndType 15 16), (0, u "intermediate"), (0, u "()Z"), (0, .class_ 18), (0, u "com/example/assayline/assayline/FrameIntermediatePinLaw"), (2, u "law"), (0, u "(IJIII)Z")] 5

def k1m0 : Method := { name := "<init>", desc := "()V", sig := { parameters := [], returnType := none }, accessFlags := 1, code := none }
def k1c1 : Code := { maxStack := 7, maxLocals := 11, code := code, exceptionTable := #[], attributes := #[] }
def k1m1 : Method := { name := "law", desc := "(IJIII)Z", sig := { parameters := [.int, .long, .int, .int, .int], returnType := some .boolean }, accessFlags := 9, code := some k1c1 }
/-- com/example/assayline/assayline/FrameIntermediatePinLaw -/
def k1 : Class := { plain "com/example/assayline/assayline/FrameIntermediatePinLaw" (some 0) with
  accessFlags := 49
  interfaces := #[]
  cf := some (fileOf pool1 17 #[] #[{ accessFlags := 1, nameIndex := 5, descriptorIndex := 6, attributes := #[] }, { accessFlags := 9, nameIndex := 21, descriptorIndex := 22, attributes := #[] }] 49 2 #[] #[])
  fields := #[]
  methods := #[k1m0, k1m1]
  instanceTypes := #[]
  staticTypes := #[]
  resolved := Array.replicate 28 none
  statics := none }

def pool2 : Array CpInfo := pool [(1, .class_ 2), (0, u "com/example/assayline/assayline/Frame"), (2, u "<init>"), (0, u "(I[BIIZ)V"), (0, .methodref 8 9), (0, .class_ 10), (0, .nameAndType 5 11), (0, u "java/lang/Object"), (0, u "()V"), (9, .methodref 22 23), (0, .class_ 24), (0, .nameAndType 25 26), (0, u "java/util/Objects"), (0, u "checkFromToIndex"), (0, u "(III)I"), (0, .integer 63993), (1, .fieldref 1 30), (0, .nameAndType 31 32), (0, u "bytes"), (0, u "[B"), (2, .methodref 36 37), (0, .class_ 38), (0, .nameAndType 39 40), (0, u "java/lang/System"), (0, u "arraycopy"), (0, u "(Ljava/lang/Object;ILjava/lang/Object;II)V"), (0, .methodref 1 42), (0, .nameAndType 43 44), (0, u "checksum"), (0, u "([BI)I"), (0, .methodref 1 46), (0, .nameAndType 47 48), (0, u "writeChecksum"), (0, u "([BI)V"), (26, u "intermediate"), (0, u "()Z"), (17, .fieldref 1 95), (0, .nameAndType 96 32), (0, u "HEX_DIGITS"), (12, u "MAX_LENGTH"), (0, u "I"), (1, u "OVERHEAD"), (1, u "MAX_TEXT"), (0, u "FIRST_NUMBER")] 44

def k2c0 : Code := { maxStack := 6, maxLocals := 7, code := prog_34_method_2_code, exceptionTable := #[], attributes := #[] }
def k2m0 : Method := { name := "<init>", desc := "(I[BIIZ)V", sig := { parameters := [.int, (.array .byte), .int, .int, .boolean], returnType := none }, accessFlags := 0, code := some k2c0 }
def k2c1 : Code := { maxStack := 3, maxLocals := 1, code := prog_34_method_8_code, exceptionTable := #[], attributes := #[] }
def k2m1 : Method := { name := "intermediate", desc := "()Z", sig := { parameters := [], returnType := some .boolean }, accessFlags := 0, code := some k2c1 }
def k2c2 : Code := { maxStack := 5, maxLocals := 2, code := prog_34_method_15_code, exceptionTable := #[], attributes := #[] }
def k2m2 : Method := { name := "writeChecksum", desc := "([BI)V", sig := { parameters := [(.array .byte), .int], returnType := none }, accessFlags := 10, code := some k2c2 }
def k2c3 : Code := { maxStack := 3, maxLocals := 4, code := prog_34_method_16_code, exceptionTable := #[], attributes := #[] }
def k2m3 : Method := { name := "checksum", desc := "([BI)I", sig := { parameters := [(.array .byte), .int], returnType := some .int }, accessFlags := 10, code := some k2c3 }
/-- com/example/assayline/assayline/Frame -/
def k2 : Class := { plain "com/example/assayline/assayline/Frame" (some 0) with
  accessFlags := 48
  interfaces := #[]
  cf := some (fileOf pool2 1 #[] #[{ accessFlags := 0, nameIndex := 5, descriptorIndex := 6, attributes := #[] }, { accessFlags := 0, nameIndex := 75, descriptorIndex := 76, attributes := #[] }, { accessFlags := 10, nameIndex := 47, descriptorIndex := 48, attributes := #[] }, { accessFlags := 10, nameIndex := 43, descriptorIndex := 44, attributes := #[] }] 48 8 #[] #[{ accessFlags := 24, nameIndex := 109, descriptorIndex := 110, attributes := #[] }, { accessFlags := 26, nameIndex := 112, descriptorIndex := 110, attributes := #[] }, { accessFlags := 24, nameIndex := 114, descriptorIndex := 110, attributes := #[] }, { accessFlags := 24, nameIndex := 115, descriptorIndex := 110, attributes := #[] }, { accessFlags := 26, nameIndex := 96, descriptorIndex := 32, attributes := #[] }, { accessFlags := 18, nameIndex := 31, descriptorIndex := 32, attributes := #[] }])
  fields := #[{ name := "MAX_LENGTH", type := .int, accessFlags := 24, slot := 0, constantValue := 0 }, { name := "OVERHEAD", type := .int, accessFlags := 26, slot := 1, constantValue := 0 }, { name := "MAX_TEXT", type := .int, accessFlags := 24, slot := 2, constantValue := 0 }, { name := "FIRST_NUMBER", type := .int, accessFlags := 24, slot := 3, constantValue := 0 }, { name := "HEX_DIGITS", type := (.array .byte), accessFlags := 26, slot := 4, constantValue := 0 }, { name := "bytes", type := (.array .byte), accessFlags := 18, slot := 0, constantValue := 0 }]
  methods := #[k2m0, k2m1, k2m2, k2m3]
  instanceTypes := #[(.array .byte)]
  staticTypes := #[.int, .int, .int, .int, (.array .byte)]
  resolved := Array.replicate 160 none
  statics := some 0 }

def pool3 : Array CpInfo := pool [(2, .class_ 4), (1, u "java/lang/Object"), (0, u "<init>"), (0, u "()V"), (35, .class_ 44), (1, u "java/util/Objects"), (61, .class_ 108), (1, u "jdk/internal/util/Preconditions"), (2, .methodref 106 112), (0, .nameAndType 113 114), (0, u "checkFromToIndex"), (0, u "(IIILjava/util/function/BiFunction;)I"), (60, u "(III)I")] 8

def k3m0 : Method := { name := "<init>", desc := "()V", sig := { parameters := [], returnType := none }, accessFlags := 2, code := none }
def k3c1 : Code := { maxStack := 4, maxLocals := 3, code := jdk_31_method_18_code, exceptionTable := #[], attributes := #[] }
def k3m1 : Method := { name := "checkFromToIndex", desc := "(III)I", sig := { parameters := [.int, .int, .int], returnType := some .int }, accessFlags := 9, code := some k3c1 }
/-- java/util/Objects -/
def k3 : Class := { plain "java/util/Objects" (some 0) with
  accessFlags := 49
  interfaces := #[]
  cf := some (fileOf pool3 42 #[] #[{ accessFlags := 2, nameIndex := 5, descriptorIndex := 6, attributes := #[] }, { accessFlags := 9, nameIndex := 113, descriptorIndex := 175, attributes := #[] }] 49 2 #[] #[])
  fields := #[]
  methods := #[k3m0, k3m1]
  instanceTypes := #[]
  staticTypes := #[]
  resolved := Array.replicate 184 none
  statics := none }

def pool4 : Array CpInfo := pool [(2, .class_ 4), (1, u "java/lang/Object"), (0, u "<init>"), (0, u "()V"), (17, .class_ 26), (1, u "jdk/internal/util/Preconditions"), (20, u "checkFromToIndex"), (7, .class_ 56), (0, u "jdk/internal/util/Preconditions$4"), (57, .class_ 115), (0, u "jdk/internal/util/Preconditions$1"), (7, u "SIOOBE_FORMATTER"), (0, u "Ljava/util/function/BiFunction;"), (0, .class_ 126), (0, u "jdk/internal/util/Preconditions$2"), (3, u "AIOOBE_FORMATTER"), (0, .class_ 132), (0, u "jdk/internal/util/Preconditions$3"), (3, u "IOOBE_FORMATTER"), (46, u "(IIILjava/util/function/BiFunction;)I")] 10

def k4m0 : Method := { name := "<init>", desc := "()V", sig := { parameters := [], returnType := none }, accessFlags := 1, code := none }
def k4c1 : Code := { maxStack := 4, maxLocals := 4, code := jdk_41_method_12_code, exceptionTable := #[], attributes := #[] }
def k4m1 : Method := { name := "checkFromToIndex", desc := "(IIILjava/util/function/BiFunction;)I", sig := { parameters := [.int, .int, .int, (.object "java/util/function/BiFunction")], returnType := some .int }, accessFlags := 9, code := some k4c1 }
/-- jdk/internal/util/Preconditions -/
def k4 : Class := { plain "jdk/internal/util/Preconditions" (some 0) with
  accessFlags := 33
  interfaces := #[]
  cf := some (fileOf pool4 24 #[.nestMembers #[55, 131, 125, 114]] #[{ accessFlags := 1, nameIndex := 5, descriptorIndex := 6, attributes := #[] }, { accessFlags := 9, nameIndex := 47, descriptorIndex := 183, attributes := #[] }] 33 2 #[] #[{ accessFlags := 25, nameIndex := 123, descriptorIndex := 124, attributes := #[] }, { accessFlags := 25, nameIndex := 130, descriptorIndex := 124, attributes := #[] }, { accessFlags := 25, nameIndex := 136, descriptorIndex := 124, attributes := #[] }])
  fields := #[{ name := "SIOOBE_FORMATTER", type := (.object "java/util/function/BiFunction"), accessFlags := 25, slot := 0, constantValue := 0 }, { name := "AIOOBE_FORMATTER", type := (.object "java/util/function/BiFunction"), accessFlags := 25, slot := 1, constantValue := 0 }, { name := "IOOBE_FORMATTER", type := (.object "java/util/function/BiFunction"), accessFlags := 25, slot := 2, constantValue := 0 }]
  methods := #[k4m0, k4m1]
  instanceTypes := #[]
  staticTypes := #[(.object "java/util/function/BiFunction"), (.object "java/util/function/BiFunction"), (.object "java/util/function/BiFunction")]
  resolved := Array.replicate 194 none
  statics := none }

def pool5 : Array CpInfo := pool [(2, .class_ 4), (1, u "java/lang/Object"), (0, u "<init>"), (0, u "()V"), (1, .class_ 10), (1, u "java/lang/System"), (0, u "allowSecurityManager"), (0, u "I"), (16, u "cons"), (0, u "Ljava/io/Console;"), (77, .class_ 110), (1, u "java/lang/System$CallersHolder"), (43, u "initialErrStream"), (0, u "Ljava/io/PrintStream;"), (19, u "security"), (0, u "Ljava/lang/SecurityManager;"), (31, .class_ 209), (0, u "java/lang/System$1"), (7, u "props"), (0, u "Ljava/util/Properties;"), (2, u "lineSeparator"), (0, u "Ljava/lang/String;"), (96, .class_ 321), (1, u "java/lang/System$LoggerFinder"), (5, .class_ 328), (0, u "java/lang/System$Logger"), (67, u "err"), (2, u "out"), (91, u "notSupportedJnuEncoding"), (15, u "in"), (17, u "initialIn"), (0, u "Ljava/io/InputStream;"), (35, u "bootLayer"), (0, u "Ljava/lang/ModuleLayer;"), (99, .class_ 664), (0, u "java/lang/System$2"), (9, u "NEVER"), (2, u "MAYBE"), (49, u "arraycopy"), (0, u "(Ljava/lang/Object;ILjava/lang/Object;II)V"), (72, .class_ 802), (0, u "java/lang/System$Logger$Level")] 31

def k5m0 : Method := { name := "<init>", desc := "()V", sig := { parameters := [], returnType := none }, accessFlags := 2, code := none }
def k5m1 : Method := { name := "arraycopy", desc := "(Ljava/lang/Object;ILjava/lang/Object;II)V", sig := { parameters := [(.object "java/lang/Object"), .int, (.object "java/lang/Object"), .int, .int], returnType := none }, accessFlags := 265, code := none }
/-- java/lang/System -/
def k5 : Class := { plain "java/lang/System" (some 0) with
  accessFlags := 49
  interfaces := #[]
  cf := some (fileOf pool5 8 #[.nestMembers #[319, 327, 801, 108, 663, 208]] #[{ accessFlags := 2, nameIndex := 5, descriptorIndex := 6, attributes := #[] }, { accessFlags := 265, nameIndex := 727, descriptorIndex := 728, attributes := #[] }] 49 2 #[] #[{ accessFlags := 25, nameIndex := 507, descriptorIndex := 526, attributes := #[] }, { accessFlags := 25, nameIndex := 399, descriptorIndex := 155, attributes := #[] }, { accessFlags := 25, nameIndex := 396, descriptorIndex := 155, attributes := #[] }, { accessFlags := 10, nameIndex := 525, descriptorIndex := 526, attributes := #[] }, { accessFlags := 26, nameIndex := 674, descriptorIndex := 12, attributes := #[] }, { accessFlags := 26, nameIndex := 677, descriptorIndex := 12, attributes := #[] }, { accessFlags := 10, nameIndex := 11, descriptorIndex := 12, attributes := #[] }, { accessFlags := 74, nameIndex := 175, descriptorIndex := 176, attributes := #[] }, { accessFlags := 10, nameIndex := 491, descriptorIndex := 222, attributes := #[] }, { accessFlags := 74, nameIndex := 29, descriptorIndex := 30, attributes := #[] }, { accessFlags := 74, nameIndex := 154, descriptorIndex := 155, attributes := #[] }, { accessFlags := 10, nameIndex := 217, descriptorIndex := 218, attributes := #[] }, { accessFlags := 10, nameIndex := 221, descriptorIndex := 222, attributes := #[] }, { accessFlags := 8, nameIndex := 562, descriptorIndex := 563, attributes := #[] }])
  fields := #[{ name := "in", type := (.object "java/io/InputStream"), accessFlags := 25, slot := 0, constantValue := 0 }, { name := "out", type := (.object "java/io/PrintStream"), accessFlags := 25, slot := 1, constantValue := 0 }, { name := "err", type := (.object "java/io/PrintStream"), accessFlags := 25, slot := 2, constantValue := 0 }, { name := "initialIn", type := (.object "java/io/InputStream"), accessFlags := 10, slot := 3, constantValue := 0 }, { name := "NEVER", type := .int, accessFlags := 26, slot := 4, constantValue := 0 }, { name := "MAYBE", type := .int, accessFlags := 26, slot := 5, constantValue := 0 }, { name := "allowSecurityManager", type := .int, accessFlags := 10, slot := 6, constantValue := 0 }, { name := "security", type := (.object "java/lang/SecurityManager"), accessFlags := 74, slot := 7, constantValue := 0 }, { name := "notSupportedJnuEncoding", type := (.object "java/lang/String"), accessFlags := 10, slot := 8, constantValue := 0 }, { name := "cons", type := (.object "java/io/Console"), accessFlags := 74, slot := 9, constantValue := 0 }, { name := "initialErrStream", type := (.object "java/io/PrintStream"), accessFlags := 74, slot := 10, constantValue := 0 }, { name := "props", type := (.object "java/util/Properties"), accessFlags := 10, slot := 11, constantValue := 0 }, { name := "lineSeparator", type := (.object "java/lang/String"), accessFlags := 10, slot := 12, constantValue := 0 }, { name := "bootLayer", type := (.object "java/lang/ModuleLayer"), accessFlags := 8, slot := 13, constantValue := 0 }]
  methods := #[k5m0, k5m1]
  instanceTypes := #[]
  staticTypes := #[(.object "java/io/InputStream"), (.object "java/io/PrintStream"), (.object "java/io/PrintStream"), (.object "java/io/InputStream"), .int, .int, .int, (.object "java/lang/SecurityManager"), (.object "java/lang/String"), (.object "java/io/Console"), (.object "java/io/PrintStream"), (.object "java/util/Properties"), (.object "java/lang/String"), (.object "java/lang/ModuleLayer")]
  resolved := Array.replicate 834 none
  statics := none }

def pool6 : Array CpInfo := pool [(1, u "java/lang/Cloneable"), (0, .class_ 1), (0, u "java/lang/Object"), (0, .class_ 3)] 3

/-- java/lang/Cloneable -/
def k6 : Class := { plain "java/lang/Cloneable" (some 0) with
  accessFlags := 1537
  interfaces := #[]
  cf := some (fileOf pool6 2 #[] #[] 1537 4 #[] #[])
  fields := #[]
  methods := #[]
  instanceTypes := #[]
  staticTypes := #[]
  resolved := Array.replicate 8 none
  statics := none }

def pool7 : Array CpInfo := pool [(1, u "java/io/Serializable"), (0, .class_ 1), (0, u "java/lang/Object"), (0, .class_ 3)] 3

/-- java/io/Serializable -/
def k7 : Class := { plain "java/io/Serializable" (some 0) with
  accessFlags := 1537
  interfaces := #[]
  cf := some (fileOf pool7 2 #[] #[] 1537 4 #[] #[])
  fields := #[]
  methods := #[]
  instanceTypes := #[]
  staticTypes := #[]
  resolved := Array.replicate 8 none
  statics := none }

/-- the primitive byte -/
def k8 : Class := { plain "byte" none with kind := .primitive 'B', accessFlags := 0x411 }
/-- [B -/
def k9 : Class := { plain "[B" (some 0) with kind := .array 8 .byte, interfaces := #[6, 7], accessFlags := 1041 }

/-- the primitive int -/
def k10 : Class := { plain "int" none with kind := .primitive 'I', accessFlags := 0x411 }
/-- [I -/
def k11 : Class := { plain "[I" (some 0) with kind := .array 10 .int, interfaces := #[6, 7], accessFlags := 1041 }

def heap : Heap := #[{ cls := 2, slots := #[.int 0, .int 0, .int 0, .int 0, .ref 1], vm := .statics 2 },
  { cls := 9, slots := #[.int 48, .int 49, .int 50, .int 51, .int 52, .int 53, .int 54, .int 55, .int 56, .int 57, .int 65, .int 66, .int 67, .int 68, .int 69, .int 70], vm := .none }]
def classes : Array Class := #[k0, k1, k2, k3, k4, k5, k6, k7, k8, k9, k10, k11]
def interned : List (Array UInt16 × Addr) := []
def slotsUsed : Nat := 21
def theMethod : MethodId := ⟨1, 1⟩
def args0 : Array Value := #[.int 5, .long 7, .int 1, .int 2, .int 1]
def aboutOver (below : List Frame) : State where
  vm := { classes := classes, interned := interned.toArray }
  heap := heap
  slotsUsed := slotsUsed
  threads := #[{ frames := .invoking theMethod args0 :: below }]
def below0 : List Frame := [.native { method := ⟨0, 0⟩, args := #[] }]
def about1 : State := aboutOver below0
def p0 : Program := .bare "" "" ""
def e0 : Env := launch0.env 0 0 0
theorem w_frames : about1.frames = Frame.invoking theMethod args0 :: below0 := rfl
set_option maxRecDepth 65536 in
theorem w_args : argsFit about1.vm theMethod args0 = true := by decide +kernel
set_option maxRecDepth 65536 in
theorem w_heap : heapFits about1 = true := by decide +kernel
set_option maxRecDepth 65536 in
theorem w_runnable : about1.curStatus? = some .runnable := by decide +kernel
set_option maxRecDepth 65536 in
theorem w_alone : about1.alone = true := by decide +kernel
set_option maxRecDepth 65536 in
theorem w_named : about1.methodNamed? x = some theMethod := by decide +kernel
set_option maxRecDepth 65536 in
theorem w_hears : about1.hears theMethod below0 = true := by decide +kernel
set_option maxRecDepth 65536 in
theorem w_ripe : about1.ripe theMethod args0 below0 = true := by decide +kernel
theorem w_running : about1.status = .running := rfl
set_option maxRecDepth 65536 in
theorem w_room : about1.hasRoom e0.platform room_1 = true :=
  launch0.hasRoom_least _ room_1 (by decide +kernel) (by decide +kernel) (by decide +kernel) (by decide +kernel) (by decide +kernel) (by decide +kernel)
theorem allAtoms_all (ts : List Jvm.Cond) (a : Array Jvm.Value) (st : Jvm.State) : (allAtoms ts).before a st = ts.all (fun c => c.before a st) := by
  induction ts with
  | nil => rfl
  | cons c t ih =>
    show (Jvm.Cond.and c (allAtoms t)).before a st = _
    rw [Jvm.Cond.before_and, ih, List.all_cons]
def words1 : List Jvm.Cond := Jvm.Cond.code x code maxLocals ret :: tables_1
/-- a 'code' word, met by the world's own term for the bytes: nothing is compared byte by byte -/
theorem code_word {y : MethodName} {bytes : ByteArray} {mx : Nat} {rt : Option FieldType} {a : Array Value} {s : State} {m : MethodId} {meth : Method} {c : Code} (h1 : s.methodNamed? y = some m) (h2 : s.vm.method? m = some meth) (h3 : meth.code = some c) (h4 : c.code = bytes)
    (h5 : (c.maxLocals == mx && c.exceptionTable.isEmpty && decide (c.maxStack ≤ mostOperands) && decide (meth.sig.returnType = rt) && !meth.locks && decide (parseMethodDescriptor y.desc = some meth.sig)) = true) : (Jvm.Cond.code y bytes mx rt).before a s = true := by
  simp only [Bool.and_eq_true, beq_iff_eq, Bool.not_eq_true', decide_eq_true_eq] at h5
  obtain ⟨⟨⟨⟨⟨g1, g2⟩, g3⟩, g4⟩, g5⟩, g6⟩ := h5
  simp [Cond.before, Cond.holds, Cond.value, h1, h2, h3, h4, g1, g2, g3, g4, g5, g6]
def isCode : Jvm.Cond → Bool
  | .code _ _ _ _ => true
  | _ => false
theorem all_split {L : List Jvm.Cond} {P : Jvm.Cond → Bool} (h1 : L.all (fun c => isCode c || P c) = true) (h2 : ∀ c ∈ L.filter isCode, P c = true) : L.all P = true := by
  refine List.all_eq_true.mpr fun c hc => ?_
  have h := List.all_eq_true.mp h1 c hc
  rcases Bool.eq_false_or_eq_true (isCode c) with hi | hi
  · exact h2 c (List.mem_filter.mpr ⟨hc, hi⟩)
  · simpa [hi] using h
set_option maxRecDepth 65536 in
theorem w_c0 : (Jvm.Cond.code x code maxLocals ret).before args0 about1 = true := code_word (m := ⟨1, 1⟩) (meth := k1m1) (c := k1c1) (by decide +kernel) rfl rfl rfl (by decide +kernel)
set_option maxRecDepth 65536 in
theorem w_c1 : (Jvm.Cond.code ({ cls := "com/example/assayline/assayline/Frame", name := "<init>", desc := "(I[BIIZ)V" } : Jvm.MethodName) prog_34_method_2_code (7 : Nat) (Option.none : Option Jvm.ClassFile.FieldType)).before args0 about1 = true := code_word (m := ⟨2, 0⟩) (meth := k2m0) (c := k2c0) (by decide +kernel) rfl rfl rfl (by decide +kernel)
set_option maxRecDepth 65536 in
theorem w_c2 : (Jvm.Cond.code ({ cls := "java/lang/Object", name := "<init>", desc := "()V" } : Jvm.MethodName) object_method_1_code (1 : Nat) (Option.none : Option Jvm.ClassFile.FieldType)).before args0 about1 = true := code_word (m := ⟨0, 0⟩) (meth := k0m0) (c := k0c0) (by decide +kernel) rfl rfl rfl (by decide +kernel)
set_option maxRecDepth 65536 in
theorem w_c3 : (Jvm.Cond.code ({ cls := "java/util/Objects", name := "checkFromToIndex", desc := "(III)I" } : Jvm.MethodName) jdk_31_method_18_code (3 : Nat) (Option.some Jvm.ClassFile.FieldType.int)).before args0 about1 = true := code_word (m := ⟨3, 1⟩) (meth := k3m1) (c := k3c1) (by decide +kernel) rfl rfl rfl (by decide +kernel)
set_option maxRecDepth 65536 in
theorem w_c4 : (Jvm.Cond.code ({ cls := "jdk/internal/util/Preconditions", name := "checkFromToIndex", desc := "(IIILjava/util/function/BiFunction;)I" } : Jvm.MethodName) jdk_41_method_12_code (4 : Nat) (Option.some Jvm.ClassFile.FieldType.int)).before args0 about1 = true := code_word (m := ⟨4, 1⟩) (meth := k4m1) (c := k4c1) (by decide +kernel) rfl rfl rfl (by decide +kernel)
set_option maxRecDepth 65536 in
theorem w_c5 : (Jvm.Cond.code ({ cls := "com/example/assayline/assayline/Frame", name := "checksum", desc := "([BI)I" } : Jvm.MethodName) prog_34_method_16_code (4 : Nat) (Option.some Jvm.ClassFile.FieldType.int)).before args0 about1 = true := code_word (m := ⟨2, 3⟩) (meth := k2m3) (c := k2c3) (by decide +kernel) rfl rfl rfl (by decide +kernel)
set_option maxRecDepth 65536 in
theorem w_c6 : (Jvm.Cond.code ({ cls := "com/example/assayline/assayline/Frame", name := "writeChecksum", desc := "([BI)V" } : Jvm.MethodName) prog_34_method_15_code (2 : Nat) (Option.none : Option Jvm.ClassFile.FieldType)).before args0 about1 = true := code_word (m := ⟨2, 2⟩) (meth := k2m2) (c := k2c2) (by decide +kernel) rfl rfl rfl (by decide +kernel)
set_option maxRecDepth 65536 in
theorem w_c7 : (Jvm.Cond.code ({ cls := "com/example/assayline/assayline/Frame", name := "intermediate", desc := "()Z" } : Jvm.MethodName) prog_34_method_8_code (1 : Nat) (Option.some Jvm.ClassFile.FieldType.boolean)).before args0 about1 = true := code_word (m := ⟨2, 1⟩) (meth := k2m1) (c := k2c1) (by decide +kernel) rfl rfl rfl (by decide +kernel)
def codes1 : List Jvm.Cond := [Jvm.Cond.code x code maxLocals ret, Jvm.Cond.code ({ cls := "com/example/assayline/assayline/Frame", name := "<init>", desc := "(I[BIIZ)V" } : Jvm.MethodName) prog_34_method_2_code (7 : Nat) (Option.none : Option Jvm.ClassFile.FieldType), Jvm.Cond.code ({ cls := "java/lang/Object", name := "<init>", desc := "()V" } : Jvm.MethodName) object_method_1_code (1 : Nat) (Option.none : Option Jvm.ClassFile.FieldType), Jvm.Cond.code ({ cls := "java/util/Objects", name := "checkFromToIndex", desc := "(III)I" } : Jvm.MethodName) jdk_31_method_18_code (3 : Nat) (Option.some Jvm.ClassFile.FieldType.int), Jvm.Cond.code ({ cls := "jdk/internal/util/Preconditions", name := "checkFromToIndex", desc := "(IIILjava/util/function/BiFunction;)I" } : Jvm.MethodName) jdk_41_method_12_code (4 : Nat) (Option.some Jvm.ClassFile.FieldType.int), Jvm.Cond.code ({ cls := "com/example/assayline/assayline/Frame", name := "checksum", desc := "([BI)I" } : Jvm.MethodName) prog_34_method_16_code (4 : Nat) (Option.some Jvm.ClassFile.FieldType.int), Jvm.Cond.code ({ cls := "com/example/assayline/assayline/Frame", name := "writeChecksum", desc := "([BI)V" } : Jvm.MethodName) prog_34_method_15_code (2 : Nat) (Option.none : Option Jvm.ClassFile.FieldType), Jvm.Cond.code ({ cls := "com/example/assayline/assayline/Frame", name := "intermediate", desc := "()Z" } : Jvm.MethodName) prog_34_method_8_code (1 : Nat) (Option.some Jvm.ClassFile.FieldType.boolean)]
set_option maxRecDepth 65536 in
theorem codes_eq : words1.filter isCode = codes1 := rfl
theorem w_codes : ∀ c ∈ words1.filter isCode, c.before args0 about1 = true := by
  rw [codes_eq]
  intro c hc
  simp only [codes1, List.mem_cons, List.not_mem_nil, or_false] at hc
  rcases hc with rfl | rfl | rfl | rfl | rfl | rfl | rfl | rfl
  · exact w_c0
  · exact w_c1
  · exact w_c2
  · exact w_c3
  · exact w_c4
  · exact w_c5
  · exact w_c6
  · exact w_c7
set_option maxRecDepth 65536 in
theorem w_t1 : (words1.take 24).all (fun c => isCode c || c.before args0 about1) = true := by decide +kernel
set_option maxRecDepth 65536 in
theorem w_t2 : (words1.drop 24).all (fun c => isCode c || c.before args0 about1) = true := by decide +kernel
theorem w_tables : (allAtoms (Jvm.Cond.code x code maxLocals ret :: tables_1)).before args0 about1 = true := by
  rw [allAtoms_all]
  show words1.all (fun c => c.before args0 about1) = true
  refine all_split ?_ w_codes
  rw [← List.take_append_drop 24 words1, List.all_append, w_t1, w_t2]
  rfl
set_option maxRecDepth 65536 in
theorem w_case : (Jvm.Cond.and given_1 narrow_1).before args0 about1 = true := by decide +kernel
theorem w_applies : (headSpec (Jvm.Cond.code x code maxLocals ret :: tables_1) room_1).applies x e0.platform about1 = true :=
  (Spec.applies_iff w_frames).mpr ⟨w_running, w_runnable, w_alone, w_named, w_hears, w_ripe, w_room, w_tables⟩
theorem atStart : AtStart classFile x code maxLocals ret World_1 tables_1 room_1 Calls_1 rest_1 Pre_1 launch0 p0 e0 about1 theMethod args0 below0 :=
  ⟨lists_1, trivial, launch0.admits_env _ _ _, launch0.least_env, fairChoices_fair.cas, fairChoices_fair.clock, w_frames, w_args, w_heap, w_applies, trivial, trivial, w_case⟩
end start1
theorem witness_1 : WitnessClaimed_1 := ⟨start1.p0, start1.e0, start1.about1, start1.theMethod, start1.args0, start1.below0, start1.atStart⟩
end Jvm.Pilot.@@N@@
