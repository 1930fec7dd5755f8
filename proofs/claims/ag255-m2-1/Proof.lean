import JvmDerived
import JvmDerived.Pilot.@@N@@Statement
import JvmDerived.Pilot.@@N@@Code
set_option linter.unusedVariables false
set_option linter.unusedSimpArgs false
namespace Jvm.Pilot.@@N@@
open Jvm Jvm.ClassFile Sem Op Lib Jvm.Free Jvm.Stand Jvm.LawKit Jvm.RoadKit Bundle Jvm.Pilot.@@N@@.Jvm.D
def Go (p : Program) (e : Env) (below : List Frame) (s : State) (Q : Option Value → Heap → List Loc → Prop) (rc rs : Nat) (S : State) : Prop :=
  ∃ s₂ o, Steps p.tables e below S s₂ ∧ s₂.status = .running ∧ Ended s₂ below o ∧ ∃ v L, o = .returned v ∧ Q v s₂.heap L ∧ FrameEnd s o s₂ L rc rs
section OwnGo
variable {p : Program} {l : Launch} {e : Env} {R : Room} {s : State} {m : MethodId} {args : Array Value} {below : List Frame} {meth : Method} {c : Code} {T : State} {locs : List Loc} {cells slots : Nat} {Q : Option Value → Heap → List Loc → Prop} {rc rs : Nat}
theorem Go.via {S S' : State} (h : ∀ t, Steps p.tables e below S' t → Steps p.tables e below S t) (g : Go p e below s Q rc rs S') : Go p e below s Q rc rs S :=
  let ⟨s₂, o, a, b⟩ := g; ⟨s₂, o, h _ a, b⟩
theorem Go.retI (X : Stand p l e R s m args below meth c T locs cells slots) (hx : p.tables.exec = Jvm.exec) (hlk : meth.locks = false) {pc : Nat} {Ls : Array Slot} {z : Int32} {rest : List Value} (hret : meth.sig.returnType = some .int) (hd : decode c.code pc = .ok (.ireturn, 1))
    (hq : Q (some (.int z)) T.heap locs) (hc : cells ≤ rc) (hs : slots ≤ rs) : Go p e below s Q rc rs (T.setTop (mkF m pc Ls (.int z :: rest))) := by
  obtain ⟨fs, hr, hrun, hended, hW, hsame⟩ := X.leave (v := some (.int z)) (fun h => by rw [hret] at h; cases h)
  exact ⟨_, _, retOut X hx hret rfl (Or.inl ⟨rfl, Or.inl rfl, _, rfl⟩) hd hr, hrun, hended, _, _, rfl, hq, ⟨_, rfl⟩, hW, hsame.mono hc hs⟩
theorem Go.retB (X : Stand p l e R s m args below meth c T locs cells slots) (hx : p.tables.exec = Jvm.exec) (hlk : meth.locks = false) {pc : Nat} {Ls : Array Slot} {z : Int32} {rest : List Value} (hret : meth.sig.returnType = some .boolean) (hd : decode c.code pc = .ok (.ireturn, 1)) (hz : narrow .boolean (.int z) = .int z)
    (hq : Q (some (.int z)) T.heap locs) (hc : cells ≤ rc) (hs : slots ≤ rs) : Go p e below s Q rc rs (T.setTop (mkF m pc Ls (.int z :: rest))) := by
  obtain ⟨fs, hr, hrun, hended, hW, hsame⟩ := X.leave (v := some (.int z)) (fun h => by rw [hret] at h; cases h)
  exact ⟨_, _, retOut X hx hret hz (Or.inl ⟨rfl, Or.inr (Or.inl rfl), _, rfl⟩) hd hr, hrun, hended, _, _, rfl, hq, ⟨_, rfl⟩, hW, hsame.mono hc hs⟩
theorem Go.retC (X : Stand p l e R s m args below meth c T locs cells slots) (hx : p.tables.exec = Jvm.exec) (hlk : meth.locks = false) {pc : Nat} {Ls : Array Slot} {z : Int32} {rest : List Value} (hret : meth.sig.returnType = some .char) (hd : decode c.code pc = .ok (.ireturn, 1)) (hz : narrow .char (.int z) = .int z)
    (hq : Q (some (.int z)) T.heap locs) (hc : cells ≤ rc) (hs : slots ≤ rs) : Go p e below s Q rc rs (T.setTop (mkF m pc Ls (.int z :: rest))) := by
  obtain ⟨fs, hr, hrun, hended, hW, hsame⟩ := X.leave (v := some (.int z)) (fun h => by rw [hret] at h; cases h)
  exact ⟨_, _, retOut X hx hret hz (Or.inl ⟨rfl, Or.inr (Or.inr (Or.inr (Or.inl rfl))), _, rfl⟩) hd hr, hrun, hended, _, _, rfl, hq, ⟨_, rfl⟩, hW, hsame.mono hc hs⟩
theorem Go.retJ (X : Stand p l e R s m args below meth c T locs cells slots) (hx : p.tables.exec = Jvm.exec) (hlk : meth.locks = false) {pc : Nat} {Ls : Array Slot} {z : Int64} {rest : List Value} (hret : meth.sig.returnType = some .long) (hd : decode c.code pc = .ok (.lreturn, 1))
    (hq : Q (some (.long z)) T.heap locs) (hc : cells ≤ rc) (hs : slots ≤ rs) : Go p e below s Q rc rs (T.setTop (mkF m pc Ls (.long z :: rest))) := by
  obtain ⟨fs, hr, hrun, hended, hW, hsame⟩ := X.leave (v := some (.long z)) (fun h => by rw [hret] at h; cases h)
  exact ⟨_, _, retOut X hx hret rfl (Or.inr (Or.inl ⟨rfl, rfl, _, rfl⟩)) hd hr, hrun, hended, _, _, rfl, hq, ⟨_, rfl⟩, hW, hsame.mono hc hs⟩
theorem Go.retA (X : Stand p l e R s m args below meth c T locs cells slots) (hx : p.tables.exec = Jvm.exec) (hlk : meth.locks = false) {pc : Nat} {Ls : Array Slot} {z : Value} {rest : List Value} {t : FieldType} (hret : meth.sig.returnType = some t) (ht : t.isReference = true) (hz : z.isRef = true) (hn : narrow t z = z) (hd : decode c.code pc = .ok (.areturn, 1))
    (hq : Q (some z) T.heap locs) (hc : cells ≤ rc) (hs : slots ≤ rs) : Go p e below s Q rc rs (T.setTop (mkF m pc Ls (z :: rest))) := by
  obtain ⟨fs, hr, hrun, hended, hW, hsame⟩ := X.leave (v := some z) (fun h => by rw [hret] at h; cases h)
  exact ⟨_, _, retOut X hx hret hn (Or.inr (Or.inr (Or.inr (Or.inr ⟨rfl, ht, hz⟩)))) hd hr, hrun, hended, _, _, rfl, hq, ⟨_, rfl⟩, hW, hsame.mono hc hs⟩
theorem Go.retV (X : Stand p l e R s m args below meth c T locs cells slots) (hx : p.tables.exec = Jvm.exec) (hlk : meth.locks = false) {pc : Nat} {Ls : Array Slot} (hret : meth.sig.returnType = none) (hd : decode c.code pc = .ok (.return_, 1))
    (hq : Q none T.heap locs) (hc : cells ≤ rc) (hs : slots ≤ rs) : Go p e below s Q rc rs (T.setTop (mkF m pc Ls [])) := by
  obtain ⟨fs, hr, hrun, hended, hW, hsame⟩ := X.leave (v := none) (fun _ => rfl)
  exact ⟨_, _, X.returnOut hx hret hd hr, hrun, hended, _, _, rfl, hq, ⟨_, rfl⟩, hW, hsame.mono hc hs⟩
def GoW (p : Program) (e : Env) (below : List Frame) (s : State) (Q : Option Value → Heap → List Loc → Prop) (rc rs : Nat) (S : State) : Prop :=
  ∃ s₂ o, Steps p.tables e below S s₂ ∧ s₂.status = .running ∧ Ended s₂ below o ∧ ∃ v L, o = .returned v ∧ Q v s₂.heap L ∧ ReturnedEndW s o s₂ L rc rs
theorem GoW.via {S S' : State} (h : ∀ t, Steps p.tables e below S' t → Steps p.tables e below S t) (g : GoW p e below s Q rc rs S') : GoW p e below s Q rc rs S :=
  let ⟨s₂, o, a, b⟩ := g; ⟨s₂, o, h _ a, b⟩
theorem GoW.retB {vm₁ : Vm} (X : Stand p l e R (s.setVm vm₁) m args below meth c T locs cells slots) (hx : p.tables.exec = Jvm.exec) (hlk : meth.locks = false) {n : Nat} (hS : s.Since vm₁ n) (hn : n ≤ T.heap.size) {pc : Nat} {Ls : Array Slot} {z : Int32} {rest : List Value} (hret : meth.sig.returnType = some .boolean) (hd : decode c.code pc = .ok (.ireturn, 1)) (hz : narrow .boolean (.int z) = .int z)
    (hq : Q (some (.int z)) T.heap locs) (hc : cells ≤ rc) (hs : slots ≤ rs) : GoW p e below s Q rc rs (T.setTop (mkF m pc Ls (.int z :: rest))) := by
  obtain ⟨fs, hr, hrun, hended, hE⟩ := X.leaveW hS hn (v := some (.int z)) (fun h => by rw [hret] at h; cases h)
  exact ⟨_, _, retOut X hx hret hz (Or.inl ⟨rfl, Or.inr (Or.inl rfl), _, rfl⟩) hd hr, hrun, hended, _, _, rfl, hq, hE.1, hE.2.1, hE.2.2.1, hE.2.2.2.mono hc hs⟩
end OwnGo
theorem own_sel {s : State} {args : Array Value} {y : MethodName} {n : Nat} (wi : (Jvm.Cond.instantiable y.cls n).before args s = true) (hpriv : s.PrivateAt y) (hinst : (Jvm.Cond.instanceMethod y).before args s = true) (hy : y.cls ≠ "java/lang/invoke/MethodHandle" ∧ y.cls ≠ "java/lang/invoke/VarHandle") : (Jvm.Cond.selects y.cls y y).before args s = true := by
  obtain ⟨c, k, h1, h2, h3, h4, -⟩ := Cond.instantiable_spec wi
  have h5 : k.isInterface = false := by
    cases hq : k.isInterface
    · rfl
    · rw [hq] at h4; cases h4
  exact Jvm.Stand.selects_self_of_private h1 h2 h5 hpriv hinst hy
theorem own_lc1 {x y : Int64} (h : x < y) : lcmpW x y < 0 := (lw_lt x y).mpr h
theorem own_lc2 {x y : Int64} (h : ¬ x < y) : ¬ lcmpW x y < 0 := fun q => h ((lw_lt x y).mp q)
theorem own_lc3 {x y : Int64} (h : y < x) : 0 < lcmpW x y := (lw_gt x y).mpr h
theorem own_lc4 {x y : Int64} (h : ¬ y < x) : ¬ 0 < lcmpW x y := fun q => h ((lw_gt x y).mp q)
theorem own_lc5 {x y : Int64} (h : x = y) : lcmpW x y = 0 := (lw_eq x y).mpr h
theorem own_lc6 {x y : Int64} (h : ¬ x = y) : ¬ lcmpW x y = 0 := fun q => h ((lw_eq x y).mp q)
def own_cmp (a b : Int64) (r : Int32) : Prop := (a < b ∧ r = -1) ∨ (a = b ∧ r = 0) ∨ (b < a ∧ r = 1)
def own_sgn (c r : Int32) : Prop := (c < 0 ∧ r = -1) ∨ (0 < c ∧ r = 1) ∨ (c = 0 ∧ r = 0)
theorem own_gt {a b : Int64} (h : ¬ a < b) (h' : ¬ a = b) : b < a := by
  rw [Int64.lt_iff_toInt_lt] at h ⊢
  rw [← Int64.toInt_inj] at h'
  omega
theorem own_eq {a b : Int64} (h : ¬ a < b) (h' : ¬ b < a) : a = b := by
  rw [Int64.lt_iff_toInt_lt] at h h'
  rw [← Int64.toInt_inj]
  omega
theorem own_z {c : Int32} (h : ¬ c < 0) (h' : ¬ 0 < c) : c = 0 := by
  rw [Int32.lt_iff_toInt_lt] at h h'
  rw [← Int32.toInt_inj]
  omega
theorem own_fun {a b : Int64} {r r' : Int32} (h : own_cmp a b r) (h' : own_cmp a b r') : r = r' := by
  unfold own_cmp at h h'
  simp only [Int64.lt_iff_toInt_lt, ← Int64.toInt_inj] at h h'
  rcases h with ⟨h, rfl⟩ | ⟨h, rfl⟩ | ⟨h, rfl⟩ <;> rcases h' with ⟨h', rfl⟩ | ⟨h', rfl⟩ | ⟨h', rfl⟩ <;> first | rfl | (exfalso; omega)
theorem own_sg {a b : Int64} {r s : Int32} (h : own_cmp a b r) (h' : own_sgn r s) : s = r := by
  unfold own_cmp at h
  unfold own_sgn at h'
  rcases h with ⟨-, rfl⟩ | ⟨-, rfl⟩ | ⟨-, rfl⟩ <;> rcases h' with ⟨h', rfl⟩ | ⟨h', rfl⟩ | ⟨h', rfl⟩ <;> first | rfl | (revert h'; decide)
theorem d4_0 : decode jdk_35_method_42_code 0 = .ok (.lload_n 0, 1) := by decide +kernel
theorem d4_1 : decode jdk_35_method_42_code 1 = .ok (.lload_n 2, 1) := by decide +kernel
theorem d4_2 : decode jdk_35_method_42_code 2 = .ok (.lcmp, 1) := by decide +kernel
theorem d4_3 : decode jdk_35_method_42_code 3 = .ok (.ifCond .ge 7, 3) := by decide +kernel
theorem d4_6 : decode jdk_35_method_42_code 6 = .ok (.iconst (-1), 1) := by decide +kernel
theorem d4_7 : decode jdk_35_method_42_code 7 = .ok (.goto 14, 3) := by decide +kernel
theorem d4_21 : decode jdk_35_method_42_code 21 = .ok (.ireturn, 1) := by decide +kernel
theorem d4_10 : decode jdk_35_method_42_code 10 = .ok (.lload_n 0, 1) := by decide +kernel
theorem d4_11 : decode jdk_35_method_42_code 11 = .ok (.lload_n 2, 1) := by decide +kernel
theorem d4_12 : decode jdk_35_method_42_code 12 = .ok (.lcmp, 1) := by decide +kernel
theorem d4_13 : decode jdk_35_method_42_code 13 = .ok (.ifCond .ne 7, 3) := by decide +kernel
theorem d4_16 : decode jdk_35_method_42_code 16 = .ok (.iconst 0, 1) := by decide +kernel
theorem d4_17 : decode jdk_35_method_42_code 17 = .ok (.goto 4, 3) := by decide +kernel
theorem d4_20 : decode jdk_35_method_42_code 20 = .ok (.iconst 1, 1) := by decide +kernel
theorem pn_0 : plainName "java/lang/Long" = true := by first | (simp [plainName, overriddenIn]; done) | decide +kernel
theorem ef_4 (m : MethodId) (x0 : Int64) (x1 : Int64) : entryFrame m #[(.long x0), (.long x1)] 4 = mkF m 0 #[.val (.long x0), .second, .val (.long x1), .second] [] := by first | (simp [entryFrame, mkF, argsToLocals, Value.category]; done) | rfl
def Q4 (Z : State) (q1 : Int64) (q2 : Int64) (h0 : Heap) (n0 : Nat) (v : Option Value) (h : Heap) (L : List Loc) : Prop := ∃ r : Int32, v = some (.int r) ∧ Fr n0 L ∧ h = h0 ∧ own_cmp q1 q2 r
set_option maxRecDepth 65536 in
set_option maxHeartbeats 40000000 in
theorem rm4 (l : Launch) (Z : State) (a0 : Array Value) (hw : ∀ d ∈ tables_1, d.before a0 Z = true) (ws : List Jvm.Cond) (q1 : Int64) (q2 : Int64) (h0 : Heap) (n0 : Nat) (Z0 : n0 ≤ h0.size) :
    MetFree l (⟨"java/lang/Long", "compare", "(JJ)I"⟩ : MethodName) (head1 (Jvm.Cond.code (⟨"java/lang/Long", "compare", "(JJ)I"⟩ : MethodName) jdk_35_method_42_code 4 (some .int) :: ws) ({ frames := 0, cells := 0, slots := 0, locals := 0 } : Room)) (fun a U => a = #[(.long q1), (.long q2)] ∧ Z.Warmed39 U.vm ∧ U.heap = h0) (fun _ _ _ _ _ => True) (fun _ U o U' => ∃ v L, o = .returned v ∧ Q4 Z q1 q2 h0 n0 v U'.heap L ∧ FrameEnd U o U' L ({ frames := 0, cells := 0, slots := 0, locals := 0 } : Room).cells ({ frames := 0, cells := 0, slots := 0, locals := 0 } : Room).slots) := by
  refine MetFree.of_bodySF (plainFor_of_name pn_0) hisR ?_
  intro p e s m args below meth c s₁ Bd hml0 hP hK
  obtain ⟨rfl, hZ, hh⟩ := hP
  have hx := Bd.exec
  have hby := Bd.bytes
  have hml : c.maxLocals = 4 := hml0
  have hown : s.vm.findClass "java/lang/Long" = some m.cls := findClass_of_methodNamed Bd.named
  have hnm := (name_of_methodNamed Bd.named Bd.method).1
  have X0 : Stand p l e ({ frames := 0, cells := 0, slots := 0, locals := 0 } : Room) s m #[(.long q1), (.long q2)] below meth c s₁ [] 0 0 := Stand.of_body Bd
  have e0 : s₁.heap = h0 := by rw [← hh, Bd.state]; rfl
  have N0 := Fr.nil n0
  show Go p e below s (Q4 Z q1 q2 h0 n0) ({ frames := 0, cells := 0, slots := 0, locals := 0 } : Room).cells ({ frames := 0, cells := 0, slots := 0, locals := 0 } : Room).slots _
  refine Go.via (S' := s₁.setTop (mkF m 0 #[.val (.long q1), .second, .val (.long q2), .second] [])) (fun t k => castTop (ef_4 m q1 q2) k) ?_
  refine Go.via (S' := s₁.setTop (mkF m 1 #[.val (.long q1), .second, .val (.long q2), .second] [(.long q1)])) (fun _ k => XS.lloadN X0.here hx rfl (hb hby d4_0) rfl k) ?_
  refine Go.via (S' := s₁.setTop (mkF m 2 #[.val (.long q1), .second, .val (.long q2), .second] [(.long q2), (.long q1)])) (fun _ k => XS.lloadN X0.here hx rfl (hb hby d4_1) rfl k) ?_
  refine Go.via (S' := s₁.setTop (mkF m 3 #[.val (.long q1), .second, .val (.long q2), .second] [(.int (lcmpW q1 q2))])) (fun _ k => XS.lcmp X0.here hx rfl (hb hby d4_2) rfl k) ?_
  rcases Decidable.em (q1 < q2) with hc3 | hc3
  · refine Go.via (S' := s₁.setTop (mkF m 6 #[.val (.long q1), .second, .val (.long q2), .second] [])) (fun _ k => XS.ifNo X0.here hx rfl (hb hby d4_3) rfl ((if0 _ _).trans (tlt (own_lc1 hc3)).2.1) k) ?_
    refine Go.via (S' := s₁.setTop (mkF m 7 #[.val (.long q1), .second, .val (.long q2), .second] [(.int (-1 : Int32))])) (fun _ k => XS.iconst X0.here hx rfl (hb hby d4_6) k) ?_
    refine Go.via (S' := s₁.setTop (mkF m 21 #[.val (.long q1), .second, .val (.long q2), .second] [(.int (-1 : Int32))])) (fun _ k => XS.goto X0.here hx rfl (pc0 := 7) (pc' := 21) rfl (hb hby d4_7) (by decide) (by decide) k) ?_
    exact Go.retI X0 hx (BodyLoose.notSynchronized Bd) Bd.returns (hb hby d4_21) (by rw [e0]; exact ⟨_, rfl, N0, rfl, Or.inl ⟨hc3, rfl⟩⟩) (by decide) (by decide)
  · refine Go.via (S' := s₁.setTop (mkF m 10 #[.val (.long q1), .second, .val (.long q2), .second] [])) (fun _ k => XS.ifYes X0.here hx rfl (pc0 := 3) (pc' := 10) rfl (hb hby d4_3) rfl ((if0 _ _).trans (flt (own_lc2 hc3)).2.1) (by decide) (by decide) k) ?_
    refine Go.via (S' := s₁.setTop (mkF m 11 #[.val (.long q1), .second, .val (.long q2), .second] [(.long q1)])) (fun _ k => XS.lloadN X0.here hx rfl (hb hby d4_10) rfl k) ?_
    refine Go.via (S' := s₁.setTop (mkF m 12 #[.val (.long q1), .second, .val (.long q2), .second] [(.long q2), (.long q1)])) (fun _ k => XS.lloadN X0.here hx rfl (hb hby d4_11) rfl k) ?_
    refine Go.via (S' := s₁.setTop (mkF m 13 #[.val (.long q1), .second, .val (.long q2), .second] [(.int (lcmpW q1 q2))])) (fun _ k => XS.lcmp X0.here hx rfl (hb hby d4_12) rfl k) ?_
    rcases Decidable.em (q1 = q2) with hc13 | hc13
    · refine Go.via (S' := s₁.setTop (mkF m 16 #[.val (.long q1), .second, .val (.long q2), .second] [])) (fun _ k => XS.ifNo X0.here hx rfl (hb hby d4_13) rfl ((if0 _ _).trans (teq (own_lc5 hc13)).2) k) ?_
      refine Go.via (S' := s₁.setTop (mkF m 17 #[.val (.long q1), .second, .val (.long q2), .second] [(.int (0 : Int32))])) (fun _ k => XS.iconst X0.here hx rfl (hb hby d4_16) k) ?_
      refine Go.via (S' := s₁.setTop (mkF m 21 #[.val (.long q1), .second, .val (.long q2), .second] [(.int (0 : Int32))])) (fun _ k => XS.goto X0.here hx rfl (pc0 := 17) (pc' := 21) rfl (hb hby d4_17) (by decide) (by decide) k) ?_
      exact Go.retI X0 hx (BodyLoose.notSynchronized Bd) Bd.returns (hb hby d4_21) (by rw [e0]; exact ⟨_, rfl, N0, rfl, Or.inr (Or.inl ⟨hc13, rfl⟩)⟩) (by decide) (by decide)
    · refine Go.via (S' := s₁.setTop (mkF m 20 #[.val (.long q1), .second, .val (.long q2), .second] [])) (fun _ k => XS.ifYes X0.here hx rfl (pc0 := 13) (pc' := 20) rfl (hb hby d4_13) rfl ((if0 _ _).trans (feq (own_lc6 hc13)).2) (by decide) (by decide) k) ?_
      refine Go.via (S' := s₁.setTop (mkF m 21 #[.val (.long q1), .second, .val (.long q2), .second] [(.int (1 : Int32))])) (fun _ k => XS.iconst X0.here hx rfl (hb hby d4_20) k) ?_
      exact Go.retI X0 hx (BodyLoose.notSynchronized Bd) Bd.returns (hb hby d4_21) (by rw [e0]; exact ⟨_, rfl, N0, rfl, Or.inr (Or.inr ⟨own_gt hc3 hc13, rfl⟩)⟩) (by decide) (by decide)
theorem d5_0 : decode method_2_code 0 = .ok (.iload_n 0, 1) := by decide +kernel
theorem d5_1 : decode method_2_code 1 = .ok (.ifCond .ge 5, 3) := by decide +kernel
theorem d5_4 : decode method_2_code 4 = .ok (.iconst (-1), 1) := by decide +kernel
theorem d5_5 : decode method_2_code 5 = .ok (.ireturn, 1) := by decide +kernel
theorem d5_6 : decode method_2_code 6 = .ok (.iload_n 0, 1) := by decide +kernel
theorem d5_7 : decode method_2_code 7 = .ok (.ifCond .le 5, 3) := by decide +kernel
theorem d5_10 : decode method_2_code 10 = .ok (.iconst 1, 1) := by decide +kernel
theorem d5_11 : decode method_2_code 11 = .ok (.ireturn, 1) := by decide +kernel
theorem d5_12 : decode method_2_code 12 = .ok (.iconst 0, 1) := by decide +kernel
theorem d5_13 : decode method_2_code 13 = .ok (.ireturn, 1) := by decide +kernel
theorem pn_1 : plainName "com/example/tidegraph/tidegraph/graph/UserCompareToPinLaw" = true := by first | (simp [plainName, overriddenIn]; done) | decide +kernel
theorem ef_5 (m : MethodId) (x0 : Int32) : entryFrame m #[(.int x0)] 1 = mkF m 0 #[.val (.int x0)] [] := by first | (simp [entryFrame, mkF, argsToLocals, Value.category]; done) | rfl
def Q5 (Z : State) (p1 : Int32) (h0 : Heap) (n0 : Nat) (v : Option Value) (h : Heap) (L : List Loc) : Prop := ∃ r : Int32, v = some (.int r) ∧ Fr n0 L ∧ h = h0 ∧ own_sgn p1 r
set_option maxRecDepth 65536 in
set_option maxHeartbeats 40000000 in
theorem rm5 (l : Launch) (Z : State) (a0 : Array Value) (hw : ∀ d ∈ tables_1, d.before a0 Z = true) (ws : List Jvm.Cond) (p1 : Int32) (h0 : Heap) (n0 : Nat) (Z0 : n0 ≤ h0.size) :
    MetFree l (⟨"com/example/tidegraph/tidegraph/graph/UserCompareToPinLaw", "sign", "(I)I"⟩ : MethodName) (head1 (Jvm.Cond.code (⟨"com/example/tidegraph/tidegraph/graph/UserCompareToPinLaw", "sign", "(I)I"⟩ : MethodName) method_2_code 1 (some .int) :: ws) ({ frames := 0, cells := 0, slots := 0, locals := 0 } : Room)) (fun a U => a = #[(.int p1)] ∧ Z.Warmed39 U.vm ∧ U.heap = h0) (fun _ _ _ _ _ => True) (fun _ U o U' => ∃ v L, o = .returned v ∧ Q5 Z p1 h0 n0 v U'.heap L ∧ FrameEnd U o U' L ({ frames := 0, cells := 0, slots := 0, locals := 0 } : Room).cells ({ frames := 0, cells := 0, slots := 0, locals := 0 } : Room).slots) := by
  refine MetFree.of_bodySF (plainFor_of_name pn_1) hisR ?_
  intro p e s m args below meth c s₁ Bd hml0 hP hK
  obtain ⟨rfl, hZ, hh⟩ := hP
  have hx := Bd.exec
  have hby := Bd.bytes
  have hml : c.maxLocals = 1 := hml0
  have hown : s.vm.findClass "com/example/tidegraph/tidegraph/graph/UserCompareToPinLaw" = some m.cls := findClass_of_methodNamed Bd.named
  have hnm := (name_of_methodNamed Bd.named Bd.method).1
  have X0 : Stand p l e ({ frames := 0, cells := 0, slots := 0, locals := 0 } : Room) s m #[(.int p1)] below meth c s₁ [] 0 0 := Stand.of_body Bd
  have e0 : s₁.heap = h0 := by rw [← hh, Bd.state]; rfl
  have N0 := Fr.nil n0
  show Go p e below s (Q5 Z p1 h0 n0) ({ frames := 0, cells := 0, slots := 0, locals := 0 } : Room).cells ({ frames := 0, cells := 0, slots := 0, locals := 0 } : Room).slots _
  refine Go.via (S' := s₁.setTop (mkF m 0 #[.val (.int p1)] [])) (fun t k => castTop (ef_5 m p1) k) ?_
  refine Go.via (S' := s₁.setTop (mkF m 1 #[.val (.int p1)] [(.int p1)])) (fun _ k => XS.iloadN X0.here hx rfl (hb hby d5_0) rfl k) ?_
  rcases Decidable.em (p1 < (0 : Int32)) with hc1 | hc1
  · refine Go.via (S' := s₁.setTop (mkF m 4 #[.val (.int p1)] [])) (fun _ k => XS.ifNo X0.here hx rfl (hb hby d5_1) rfl ((if0 _ _).trans (tlt hc1).2.1) k) ?_
    refine Go.via (S' := s₁.setTop (mkF m 5 #[.val (.int p1)] [(.int (-1 : Int32))])) (fun _ k => XS.iconst X0.here hx rfl (hb hby d5_4) k) ?_
    exact Go.retI X0 hx (BodyLoose.notSynchronized Bd) Bd.returns (hb hby d5_5) (by rw [e0]; exact ⟨_, rfl, N0, rfl, Or.inl ⟨hc1, rfl⟩⟩) (by decide) (by decide)
  · refine Go.via (S' := s₁.setTop (mkF m 6 #[.val (.int p1)] [])) (fun _ k => XS.ifYes X0.here hx rfl (pc0 := 1) (pc' := 6) rfl (hb hby d5_1) rfl ((if0 _ _).trans (flt hc1).2.1) (by decide) (by decide) k) ?_
    refine Go.via (S' := s₁.setTop (mkF m 7 #[.val (.int p1)] [(.int p1)])) (fun _ k => XS.iloadN X0.here hx rfl (hb hby d5_6) rfl k) ?_
    rcases Decidable.em ((0 : Int32) < p1) with hc7 | hc7
    · refine Go.via (S' := s₁.setTop (mkF m 10 #[.val (.int p1)] [])) (fun _ k => XS.ifNo X0.here hx rfl (hb hby d5_7) rfl ((if0 _ _).trans (tlt hc7).2.2.2) k) ?_
      refine Go.via (S' := s₁.setTop (mkF m 11 #[.val (.int p1)] [(.int (1 : Int32))])) (fun _ k => XS.iconst X0.here hx rfl (hb hby d5_10) k) ?_
      exact Go.retI X0 hx (BodyLoose.notSynchronized Bd) Bd.returns (hb hby d5_11) (by rw [e0]; exact ⟨_, rfl, N0, rfl, Or.inr (Or.inl ⟨hc7, rfl⟩)⟩) (by decide) (by decide)
    · refine Go.via (S' := s₁.setTop (mkF m 12 #[.val (.int p1)] [])) (fun _ k => XS.ifYes X0.here hx rfl (pc0 := 7) (pc' := 12) rfl (hb hby d5_7) rfl ((if0 _ _).trans (flt hc7).2.2.2) (by decide) (by decide) k) ?_
      refine Go.via (S' := s₁.setTop (mkF m 13 #[.val (.int p1)] [(.int (0 : Int32))])) (fun _ k => XS.iconst X0.here hx rfl (hb hby d5_12) k) ?_
      exact Go.retI X0 hx (BodyLoose.notSynchronized Bd) Bd.returns (hb hby d5_13) (by rw [e0]; exact ⟨_, rfl, N0, rfl, Or.inr (Or.inr ⟨own_z hc1 hc7, rfl⟩)⟩) (by decide) (by decide)
theorem d6_0 : decode method_3_code 0 = .ok (.lload_n 0, 1) := by decide +kernel
theorem d6_1 : decode method_3_code 1 = .ok (.lload_n 2, 1) := by decide +kernel
theorem d6_2 : decode method_3_code 2 = .ok (.lcmp, 1) := by decide +kernel
theorem d6_3 : decode method_3_code 3 = .ok (.ifCond .ge 5, 3) := by decide +kernel
theorem d6_6 : decode method_3_code 6 = .ok (.iconst (-1), 1) := by decide +kernel
theorem d6_7 : decode method_3_code 7 = .ok (.ireturn, 1) := by decide +kernel
theorem d6_8 : decode method_3_code 8 = .ok (.lload_n 0, 1) := by decide +kernel
theorem d6_9 : decode method_3_code 9 = .ok (.lload_n 2, 1) := by decide +kernel
theorem d6_10 : decode method_3_code 10 = .ok (.lcmp, 1) := by decide +kernel
theorem d6_11 : decode method_3_code 11 = .ok (.ifCond .le 5, 3) := by decide +kernel
theorem d6_14 : decode method_3_code 14 = .ok (.iconst 1, 1) := by decide +kernel
theorem d6_15 : decode method_3_code 15 = .ok (.ireturn, 1) := by decide +kernel
theorem d6_16 : decode method_3_code 16 = .ok (.iconst 0, 1) := by decide +kernel
theorem d6_17 : decode method_3_code 17 = .ok (.ireturn, 1) := by decide +kernel
theorem ef_6 (m : MethodId) (x0 : Int64) (x1 : Int64) : entryFrame m #[(.long x0), (.long x1)] 4 = mkF m 0 #[.val (.long x0), .second, .val (.long x1), .second] [] := by first | (simp [entryFrame, mkF, argsToLocals, Value.category]; done) | rfl
def Q6 (Z : State) (q1 : Int64) (q2 : Int64) (h0 : Heap) (n0 : Nat) (v : Option Value) (h : Heap) (L : List Loc) : Prop := ∃ r : Int32, v = some (.int r) ∧ Fr n0 L ∧ h = h0 ∧ own_cmp q1 q2 r
set_option maxRecDepth 65536 in
set_option maxHeartbeats 40000000 in
theorem rm6 (l : Launch) (Z : State) (a0 : Array Value) (hw : ∀ d ∈ tables_1, d.before a0 Z = true) (ws : List Jvm.Cond) (q1 : Int64) (q2 : Int64) (h0 : Heap) (n0 : Nat) (Z0 : n0 ≤ h0.size) :
    MetFree l (⟨"com/example/tidegraph/tidegraph/graph/UserCompareToPinLaw", "expected", "(JJ)I"⟩ : MethodName) (head1 (Jvm.Cond.code (⟨"com/example/tidegraph/tidegraph/graph/UserCompareToPinLaw", "expected", "(JJ)I"⟩ : MethodName) method_3_code 4 (some .int) :: ws) ({ frames := 0, cells := 0, slots := 0, locals := 0 } : Room)) (fun a U => a = #[(.long q1), (.long q2)] ∧ Z.Warmed39 U.vm ∧ U.heap = h0) (fun _ _ _ _ _ => True) (fun _ U o U' => ∃ v L, o = .returned v ∧ Q6 Z q1 q2 h0 n0 v U'.heap L ∧ FrameEnd U o U' L ({ frames := 0, cells := 0, slots := 0, locals := 0 } : Room).cells ({ frames := 0, cells := 0, slots := 0, locals := 0 } : Room).slots) := by
  refine MetFree.of_bodySF (plainFor_of_name pn_1) hisR ?_
  intro p e s m args below meth c s₁ Bd hml0 hP hK
  obtain ⟨rfl, hZ, hh⟩ := hP
  have hx := Bd.exec
  have hby := Bd.bytes
  have hml : c.maxLocals = 4 := hml0
  have hown : s.vm.findClass "com/example/tidegraph/tidegraph/graph/UserCompareToPinLaw" = some m.cls := findClass_of_methodNamed Bd.named
  have hnm := (name_of_methodNamed Bd.named Bd.method).1
  have X0 : Stand p l e ({ frames := 0, cells := 0, slots := 0, locals := 0 } : Room) s m #[(.long q1), (.long q2)] below meth c s₁ [] 0 0 := Stand.of_body Bd
  have e0 : s₁.heap = h0 := by rw [← hh, Bd.state]; rfl
  have N0 := Fr.nil n0
  show Go p e below s (Q6 Z q1 q2 h0 n0) ({ frames := 0, cells := 0, slots := 0, locals := 0 } : Room).cells ({ frames := 0, cells := 0, slots := 0, locals := 0 } : Room).slots _
  refine Go.via (S' := s₁.setTop (mkF m 0 #[.val (.long q1), .second, .val (.long q2), .second] [])) (fun t k => castTop (ef_6 m q1 q2) k) ?_
  refine Go.via (S' := s₁.setTop (mkF m 1 #[.val (.long q1), .second, .val (.long q2), .second] [(.long q1)])) (fun _ k => XS.lloadN X0.here hx rfl (hb hby d6_0) rfl k) ?_
  refine Go.via (S' := s₁.setTop (mkF m 2 #[.val (.long q1), .second, .val (.long q2), .second] [(.long q2), (.long q1)])) (fun _ k => XS.lloadN X0.here hx rfl (hb hby d6_1) rfl k) ?_
  refine Go.via (S' := s₁.setTop (mkF m 3 #[.val (.long q1), .second, .val (.long q2), .second] [(.int (lcmpW q1 q2))])) (fun _ k => XS.lcmp X0.here hx rfl (hb hby d6_2) rfl k) ?_
  rcases Decidable.em (q1 < q2) with hc3 | hc3
  · refine Go.via (S' := s₁.setTop (mkF m 6 #[.val (.long q1), .second, .val (.long q2), .second] [])) (fun _ k => XS.ifNo X0.here hx rfl (hb hby d6_3) rfl ((if0 _ _).trans (tlt (own_lc1 hc3)).2.1) k) ?_
    refine Go.via (S' := s₁.setTop (mkF m 7 #[.val (.long q1), .second, .val (.long q2), .second] [(.int (-1 : Int32))])) (fun _ k => XS.iconst X0.here hx rfl (hb hby d6_6) k) ?_
    exact Go.retI X0 hx (BodyLoose.notSynchronized Bd) Bd.returns (hb hby d6_7) (by rw [e0]; exact ⟨_, rfl, N0, rfl, Or.inl ⟨hc3, rfl⟩⟩) (by decide) (by decide)
  · refine Go.via (S' := s₁.setTop (mkF m 8 #[.val (.long q1), .second, .val (.long q2), .second] [])) (fun _ k => XS.ifYes X0.here hx rfl (pc0 := 3) (pc' := 8) rfl (hb hby d6_3) rfl ((if0 _ _).trans (flt (own_lc2 hc3)).2.1) (by decide) (by decide) k) ?_
    refine Go.via (S' := s₁.setTop (mkF m 9 #[.val (.long q1), .second, .val (.long q2), .second] [(.long q1)])) (fun _ k => XS.lloadN X0.here hx rfl (hb hby d6_8) rfl k) ?_
    refine Go.via (S' := s₁.setTop (mkF m 10 #[.val (.long q1), .second, .val (.long q2), .second] [(.long q2), (.long q1)])) (fun _ k => XS.lloadN X0.here hx rfl (hb hby d6_9) rfl k) ?_
    refine Go.via (S' := s₁.setTop (mkF m 11 #[.val (.long q1), .second, .val (.long q2), .second] [(.int (lcmpW q1 q2))])) (fun _ k => XS.lcmp X0.here hx rfl (hb hby d6_10) rfl k) ?_
    rcases Decidable.em (q2 < q1) with hc11 | hc11
    · refine Go.via (S' := s₁.setTop (mkF m 14 #[.val (.long q1), .second, .val (.long q2), .second] [])) (fun _ k => XS.ifNo X0.here hx rfl (hb hby d6_11) rfl ((if0 _ _).trans (tlt (own_lc3 hc11)).2.2.2) k) ?_
      refine Go.via (S' := s₁.setTop (mkF m 15 #[.val (.long q1), .second, .val (.long q2), .second] [(.int (1 : Int32))])) (fun _ k => XS.iconst X0.here hx rfl (hb hby d6_14) k) ?_
      exact Go.retI X0 hx (BodyLoose.notSynchronized Bd) Bd.returns (hb hby d6_15) (by rw [e0]; exact ⟨_, rfl, N0, rfl, Or.inr (Or.inr ⟨hc11, rfl⟩)⟩) (by decide) (by decide)
    · refine Go.via (S' := s₁.setTop (mkF m 16 #[.val (.long q1), .second, .val (.long q2), .second] [])) (fun _ k => XS.ifYes X0.here hx rfl (pc0 := 11) (pc' := 16) rfl (hb hby d6_11) rfl ((if0 _ _).trans (flt (own_lc4 hc11)).2.2.2) (by decide) (by decide) k) ?_
      refine Go.via (S' := s₁.setTop (mkF m 17 #[.val (.long q1), .second, .val (.long q2), .second] [(.int (0 : Int32))])) (fun _ k => XS.iconst X0.here hx rfl (hb hby d6_16) k) ?_
      exact Go.retI X0 hx (BodyLoose.notSynchronized Bd) Bd.returns (hb hby d6_17) (by rw [e0]; exact ⟨_, rfl, N0, rfl, Or.inr (Or.inl ⟨own_eq hc3 hc11, rfl⟩)⟩) (by decide) (by decide)
theorem d1_0 : decode prog_15_method_1_code 0 = .ok (.aload_n 0, 1) := by decide +kernel
theorem d1_1 : decode prog_15_method_1_code 1 = .ok (.invokespecial 1, 3) := by decide +kernel
theorem d1_4 : decode prog_15_method_1_code 4 = .ok (.aload_n 0, 1) := by decide +kernel
theorem d1_5 : decode prog_15_method_1_code 5 = .ok (.lload_n 1, 1) := by decide +kernel
theorem d1_6 : decode prog_15_method_1_code 6 = .ok (.putfield 7, 3) := by decide +kernel
theorem d1_9 : decode prog_15_method_1_code 9 = .ok (.aload_n 0, 1) := by decide +kernel
theorem d1_10 : decode prog_15_method_1_code 10 = .ok (.aload_n 3, 1) := by decide +kernel
theorem d1_11 : decode prog_15_method_1_code 11 = .ok (.putfield 13, 3) := by decide +kernel
theorem d1_14 : decode prog_15_method_1_code 14 = .ok (.return_, 1) := by decide +kernel
theorem pn_2 : plainName "com/example/tidegraph/tidegraph/graph/User" = true := by first | (simp [plainName, overriddenIn]; done) | decide +kernel
theorem ef_1 (m : MethodId) (x0 : Addr) (x1 : Int64) (x2 : Addr) : entryFrame m #[(.ref x0), (.long x1), (.ref x2)] 4 = mkF m 0 #[.val (.ref x0), .val (.long x1), .second, .val (.ref x2)] [] := by first | (simp [entryFrame, mkF, argsToLocals, Value.category]; done) | rfl
def Q1 (Z : State) (a1 : Addr) (q2 : Int64) (a3 : Addr) (h0 : Heap) (n0 : Nat) (v : Option Value) (h : Heap) (L : List Loc) : Prop := v = none ∧ Fr n0 L ∧ Keep h0 h [a1] ∧ Fld Z h a1 "com/example/tidegraph/tidegraph/graph/User" "id" "J" (.long q2)
set_option maxRecDepth 65536 in
set_option maxHeartbeats 40000000 in
theorem rm1 (l : Launch) (Z : State) (a0 : Array Value) (hw : ∀ d ∈ tables_1, d.before a0 Z = true) (ws : List Jvm.Cond) (a1 : Addr) (q2 : Int64) (a3 : Addr) (h0 : Heap) (n0 : Nat) (Z0 : n0 ≤ h0.size) (E1 : Exa Z h0 a1 "com/example/tidegraph/tidegraph/graph/User") (F1 : Fld Z h0 a1 "com/example/tidegraph/tidegraph/graph/User" "id" "J" (.long (0 : Int64))) (F2 : Fld Z h0 a1 "com/example/tidegraph/tidegraph/graph/User" "name" "[B" .null) (g1 : n0 ≤ a1) :
    MetFree l (⟨"com/example/tidegraph/tidegraph/graph/User", "<init>", "(J[B)V"⟩ : MethodName) (head1 (Jvm.Cond.code (⟨"com/example/tidegraph/tidegraph/graph/User", "<init>", "(J[B)V"⟩ : MethodName) prog_15_method_1_code 4 none :: ws) ({ frames := 1, cells := 0, slots := 0, locals := 12 } : Room)) (fun a U => a = #[(.ref a1), (.long q2), (.ref a3)] ∧ Z.Warmed39 U.vm ∧ U.heap = h0) (fun _ _ _ _ _ => True) (fun _ U o U' => ∃ v L, o = .returned v ∧ Q1 Z a1 q2 a3 h0 n0 v U'.heap L ∧ FrameEnd U o U' L ({ frames := 1, cells := 0, slots := 0, locals := 12 } : Room).cells ({ frames := 1, cells := 0, slots := 0, locals := 12 } : Room).slots) := by
  refine MetFree.of_bodySF (plainFor_of_name pn_2) hisR ?_
  intro p e s m args below meth c s₁ Bd hml0 hP hK
  obtain ⟨rfl, hZ, hh⟩ := hP
  have hx := Bd.exec
  have hby := Bd.bytes
  have hml : c.maxLocals = 4 := hml0
  have hown : s.vm.findClass "com/example/tidegraph/tidegraph/graph/User" = some m.cls := findClass_of_methodNamed Bd.named
  have hnm := (name_of_methodNamed Bd.named Bd.method).1
  have X0 : Stand p l e ({ frames := 1, cells := 0, slots := 0, locals := 12 } : Room) s m #[(.ref a1), (.long q2), (.ref a3)] below meth c s₁ [] 0 0 := Stand.of_body Bd
  have e0 : s₁.heap = h0 := by rw [← hh, Bd.state]; rfl
  have N0 := Fr.nil n0
  show Go p e below s (Q1 Z a1 q2 a3 h0 n0) ({ frames := 1, cells := 0, slots := 0, locals := 12 } : Room).cells ({ frames := 1, cells := 0, slots := 0, locals := 12 } : Room).slots _
  refine Go.via (S' := s₁.setTop (mkF m 0 #[.val (.ref a1), .val (.long q2), .second, .val (.ref a3)] [])) (fun t k => castTop (ef_1 m a1 q2 a3) k) ?_
  refine Go.via (S' := s₁.setTop (mkF m 1 #[.val (.ref a1), .val (.long q2), .second, .val (.ref a3)] [(.ref a1)])) (fun _ k => XS.aloadN X0.here hx rfl (hb hby d1_0) rfl rfl k) ?_
  obtain ⟨T1, X1, e1, st1⟩ := initO X0 hx hZ hown (hw _ (List.mem_of_getElem? (i := 7) rfl)) (hw _ (List.mem_of_getElem? (i := 8) rfl)) (hw _ (List.mem_of_getElem? (i := 9) rfl)) e0 (g := (mkF m 1 #[.val (.ref a1), .val (.long q2), .second, .val (.ref a3)] [(.ref a1)])) rfl (by rw [hml]; rfl) rfl (hb hby d1_1) (by decide) (W := 0) (by show 2 * 0 + _ ≤ _; exact Nat.le_of_eq rfl) (by decide)
  refine Go.via (S' := T1.setTop (mkF m 4 #[.val (.ref a1), .val (.long q2), .second, .val (.ref a3)] [])) (fun _ k => st1 _ k) ?_
  refine Go.via (S' := T1.setTop (mkF m 5 #[.val (.ref a1), .val (.long q2), .second, .val (.ref a3)] [(.ref a1)])) (fun _ k => XS.aloadN X1.here hx rfl (hb hby d1_4) rfl rfl k) ?_
  refine Go.via (S' := T1.setTop (mkF m 6 #[.val (.ref a1), .val (.long q2), .second, .val (.ref a3)] [(.long q2), (.ref a1)])) (fun _ k => XS.lloadN X1.here hx rfl (hb hby d1_5) rfl k) ?_
  obtain ⟨T2, h2, X2, e2, W2, st2⟩ := putF X1 hx hZ hown (host := "") (Or.inl (hw _ (List.mem_of_getElem? (i := 10) rfl))) Via.refl e1 F1 E1 (Or.inr ⟨(hw _ (List.mem_of_getElem? (i := 11) rfl)), rfl, hnm⟩) (hw _ (List.mem_of_getElem? (i := 1) rfl)) (ty := .long) (by decide) rfl rfl (g := (mkF m 6 #[.val (.ref a1), .val (.long q2), .second, .val (.ref a3)] [(.long q2), (.ref a1)])) rfl rfl (hb hby d1_6)
  have N3 := Fr.snoc X2 N0 g1
  have f4 := E1.wr W2
  have f5 := F1.same W2
  have f6 := F2.other W2 (Or.inr (slot_ne (Or.inr (hw _ (List.mem_of_getElem? (i := 13) rfl))) (Or.inr (hw _ (List.mem_of_getElem? (i := 11) rfl))) (by decide) (t := (.array .byte)) (t' := .long) (by decide) (by decide)))
  have z7 := Nat.le_trans Z0 (Keep.of_wr W2).1
  have K8 := (Keep.refl h0 [a1]).wr W2 (Or.inl (List.mem_of_getElem? (i := 0) rfl))
  refine Go.via (S' := T2.setTop (mkF m 9 #[.val (.ref a1), .val (.long q2), .second, .val (.ref a3)] [])) (fun _ k => st2 _ k) ?_
  refine Go.via (S' := T2.setTop (mkF m 10 #[.val (.ref a1), .val (.long q2), .second, .val (.ref a3)] [(.ref a1)])) (fun _ k => XS.aloadN X2.here hx rfl (hb hby d1_9) rfl rfl k) ?_
  refine Go.via (S' := T2.setTop (mkF m 11 #[.val (.ref a1), .val (.long q2), .second, .val (.ref a3)] [(.ref a3), (.ref a1)])) (fun _ k => XS.aloadN X2.here hx rfl (hb hby d1_10) rfl rfl k) ?_
  obtain ⟨T9, h9, X9, e9, W9, st9⟩ := putF X2 hx hZ hown (host := "") (Or.inl (hw _ (List.mem_of_getElem? (i := 12) rfl))) Via.refl e2 f6 f4 (Or.inr ⟨(hw _ (List.mem_of_getElem? (i := 13) rfl)), rfl, hnm⟩) (hw _ (List.mem_of_getElem? (i := 1) rfl)) (ty := (.array .byte)) (by decide) rfl rfl (g := (mkF m 11 #[.val (.ref a1), .val (.long q2), .second, .val (.ref a3)] [(.ref a3), (.ref a1)])) rfl rfl (hb hby d1_11)
  have N10 := Fr.snoc X9 N3 g1
  have f11 := f4.wr W9
  have f12 := f5.other W9 (Or.inr (slot_ne (Or.inr (hw _ (List.mem_of_getElem? (i := 11) rfl))) (Or.inr (hw _ (List.mem_of_getElem? (i := 13) rfl))) (by decide) (t := .long) (t' := (.array .byte)) (by decide) (by decide)))
  have f13 := f6.same W9
  have z14 := Nat.le_trans z7 (Keep.of_wr W9).1
  have K15 := K8.wr W9 (Or.inl (List.mem_of_getElem? (i := 0) rfl))
  refine Go.via (S' := T9.setTop (mkF m 14 #[.val (.ref a1), .val (.long q2), .second, .val (.ref a3)] [])) (fun _ k => st9 _ k) ?_
  exact Go.retV X9 hx (BodyLoose.notSynchronized Bd) Bd.returns (hb hby d1_14) (by rw [e9]; exact ⟨rfl, N10, K15, f12⟩) (by decide) (by decide)
theorem d3_0 : decode prog_15_method_10_code 0 = .ok (.aload_n 0, 1) := by decide +kernel
theorem d3_1 : decode prog_15_method_10_code 1 = .ok (.getfield 7, 3) := by decide +kernel
theorem d3_4 : decode prog_15_method_10_code 4 = .ok (.aload_n 1, 1) := by decide +kernel
theorem d3_5 : decode prog_15_method_10_code 5 = .ok (.getfield 7, 3) := by decide +kernel
theorem d3_8 : decode prog_15_method_10_code 8 = .ok (.invokestatic 56, 3) := by decide +kernel
theorem pd_0 : parseMethodDescriptor "(JJ)I" = some ⟨[.long, .long], some .int⟩ := by decide +kernel
theorem d3_11 : decode prog_15_method_10_code 11 = .ok (.ireturn, 1) := by decide +kernel
theorem ef_3 (m : MethodId) (x0 : Addr) (x1 : Addr) : entryFrame m #[(.ref x0), (.ref x1)] 2 = mkF m 0 #[.val (.ref x0), .val (.ref x1)] [] := by first | (simp [entryFrame, mkF, argsToLocals, Value.category]; done) | rfl
def Q3 (Z : State) (a1 : Addr) (a2 : Addr) (w1 : Int64) (w2 : Int64) (h0 : Heap) (n0 : Nat) (v : Option Value) (h : Heap) (L : List Loc) : Prop := ∃ r : Int32, v = some (.int r) ∧ Fr n0 L ∧ h = h0 ∧ own_cmp w1 w2 r
set_option maxRecDepth 65536 in
set_option maxHeartbeats 40000000 in
theorem rm3 (l : Launch) (Z : State) (a0 : Array Value) (hw : ∀ d ∈ tables_1, d.before a0 Z = true) (ws : List Jvm.Cond) (a1 : Addr) (a2 : Addr) (w1 : Int64) (w2 : Int64) (h0 : Heap) (n0 : Nat) (Z0 : n0 ≤ h0.size) (F1 : Fld Z h0 a1 "com/example/tidegraph/tidegraph/graph/User" "id" "J" (.long w1)) (F2 : Fld Z h0 a2 "com/example/tidegraph/tidegraph/graph/User" "id" "J" (.long w2)) :
    MetFree l (⟨"com/example/tidegraph/tidegraph/graph/User", "compareTo", "(Lcom/example/tidegraph/tidegraph/graph/User;)I"⟩ : MethodName) (head1 (Jvm.Cond.code (⟨"com/example/tidegraph/tidegraph/graph/User", "compareTo", "(Lcom/example/tidegraph/tidegraph/graph/User;)I"⟩ : MethodName) prog_15_method_10_code 2 (some .int) :: ws) ({ frames := 1, cells := 0, slots := 0, locals := 15 } : Room)) (fun a U => a = #[(.ref a1), (.ref a2)] ∧ Z.Warmed39 U.vm ∧ U.heap = h0) (fun _ _ _ _ _ => True) (fun _ U o U' => ∃ v L, o = .returned v ∧ Q3 Z a1 a2 w1 w2 h0 n0 v U'.heap L ∧ FrameEnd U o U' L ({ frames := 1, cells := 0, slots := 0, locals := 15 } : Room).cells ({ frames := 1, cells := 0, slots := 0, locals := 15 } : Room).slots) := by
  refine MetFree.of_bodySF (plainFor_of_name pn_2) hisR ?_
  intro p e s m args below meth c s₁ Bd hml0 hP hK
  obtain ⟨rfl, hZ, hh⟩ := hP
  have hx := Bd.exec
  have hby := Bd.bytes
  have hml : c.maxLocals = 2 := hml0
  have hown : s.vm.findClass "com/example/tidegraph/tidegraph/graph/User" = some m.cls := findClass_of_methodNamed Bd.named
  have hnm := (name_of_methodNamed Bd.named Bd.method).1
  have X0 : Stand p l e ({ frames := 1, cells := 0, slots := 0, locals := 15 } : Room) s m #[(.ref a1), (.ref a2)] below meth c s₁ [] 0 0 := Stand.of_body Bd
  have e0 : s₁.heap = h0 := by rw [← hh, Bd.state]; rfl
  have N0 := Fr.nil n0
  show Go p e below s (Q3 Z a1 a2 w1 w2 h0 n0) ({ frames := 1, cells := 0, slots := 0, locals := 15 } : Room).cells ({ frames := 1, cells := 0, slots := 0, locals := 15 } : Room).slots _
  refine Go.via (S' := s₁.setTop (mkF m 0 #[.val (.ref a1), .val (.ref a2)] [])) (fun t k => castTop (ef_3 m a1 a2) k) ?_
  refine Go.via (S' := s₁.setTop (mkF m 1 #[.val (.ref a1), .val (.ref a2)] [(.ref a1)])) (fun _ k => XS.aloadN X0.here hx rfl (hb hby d3_0) rfl rfl k) ?_
  obtain ⟨T1, X1, e1, st1⟩ := getF X0 hx hZ hown (host := "") (Or.inl (hw _ (List.mem_of_getElem? (i := 10) rfl))) Via.refl e0 F1 (g := (mkF m 1 #[.val (.ref a1), .val (.ref a2)] [(.ref a1)])) rfl rfl (hb hby d3_1)
  refine Go.via (S' := T1.setTop (mkF m 4 #[.val (.ref a1), .val (.ref a2)] [(.long w1)])) (fun _ k => st1 _ k) ?_
  refine Go.via (S' := T1.setTop (mkF m 5 #[.val (.ref a1), .val (.ref a2)] [(.ref a2), (.long w1)])) (fun _ k => XS.aloadN X1.here hx rfl (hb hby d3_4) rfl rfl k) ?_
  obtain ⟨T2, X2, e2, st2⟩ := getF X1 hx hZ hown (host := "") (Or.inl (hw _ (List.mem_of_getElem? (i := 10) rfl))) Via.refl e1 F2 (g := (mkF m 5 #[.val (.ref a1), .val (.ref a2)] [(.ref a2), (.long w1)])) rfl rfl (hb hby d3_5)
  refine Go.via (S' := T2.setTop (mkF m 8 #[.val (.ref a1), .val (.ref a2)] [(.long w2), (.long w1)])) (fun _ k => st2 _ k) ?_
  obtain ⟨_, _, ⟨T3, L3, k3, n3⟩, -, X3, ⟨Lc3, hQ3, l3, y3, z3⟩, st3⟩ := Jvm.LawKit.callS X2 hx (y := (⟨"java/lang/Long", "compare", "(JJ)I"⟩ : MethodName)) hown (mvT hZ (hw _ (List.mem_of_getElem? (i := 19) rfl))) (mvT hZ (hw _ (List.mem_of_getElem? (i := 20) rfl))) (mvT hZ (hw _ (List.mem_of_getElem? (i := 21) rfl))) (mvT hZ (hw _ (List.mem_of_getElem? (i := 22) rfl))) (by decide) (backOf (W := 0) (rm4 l Z a0 hw [] w1 w2 h0 n0 Z0) hZ (hw _ (List.mem_of_getElem? (i := 22) rfl)) (hw _ (List.mem_of_getElem? (i := 21) rfl)) (by decide) (by decide)) (g := (mkF m 8 #[.val (.ref a1), .val (.ref a2)] [(.long w2), (.long w1)])) rfl (by rw [hml]; rfl) (argsL := [(.long w1), (.long w2)]) (rest := []) (lenOf pd_0 rfl) rfl (by show 2 * 0 + _ ≤ _; exact Nat.le_of_eq rfl) (hb hby d3_8) (fun _ _ => ⟨rfl, e2, (by decide : 0 + 0 ≤ _), (by decide : 0 + 0 ≤ _)⟩)
  dsimp only [Pt.U, Pt.locs, Pt.cells, Pt.slots] at X3 l3 y3 z3 st3 hQ3
  subst l3 y3 z3
  obtain ⟨r3, rfl, N3q, e3, hr3⟩ := hQ3
  have N4 := Fr.app N0 N3q
  refine Go.via (S' := T3.setTop (mkF m 11 #[.val (.ref a1), .val (.ref a2)] [(.int r3)])) (fun _ k => st3 _ k) ?_
  exact Go.retI X3 hx (BodyLoose.notSynchronized Bd) Bd.returns (hb hby d3_11) (by rw [e3]; exact ⟨_, rfl, N4, rfl, hr3⟩) (by decide) (by decide)
theorem pd_1 : parseMethodDescriptor "(J[B)V" = some ⟨[.long, (.array .byte)], none⟩ := by decide +kernel
theorem pd_2 : parseMethodDescriptor "(Lcom/example/tidegraph/tidegraph/graph/User;)I" = some ⟨[(.object "com/example/tidegraph/tidegraph/graph/User")], some .int⟩ := by decide +kernel
theorem pd_3 : parseMethodDescriptor "(I)I" = some ⟨[.int], some .int⟩ := by decide +kernel
theorem ef_0 (m : MethodId) (x0 : Int64) (x1 : Int64) (x2 : Int32) : entryFrame m #[(.long x0), (.long x1), (.int x2)] maxLocals = mkF m 0 #[.val (.long x0), .second, .val (.long x1), .second, .val (.int x2), .unset, .unset, .unset, .unset, .unset, .unset, .unset] [] := by first | (simp [entryFrame, mkF, argsToLocals, Value.category, maxLocals]; done) | rfl
def Q0 (Z : State) (q1 : Int64) (q2 : Int64) (p3 : Int32) (h0 : Heap) (n0 : Nat) (v : Option Value) (h : Heap) (L : List Loc) : Prop := v = some (.int 1) ∧ Fr n0 L
set_option maxRecDepth 65536 in
set_option maxHeartbeats 40000000 in
theorem rm0 (l : Launch) (Z : State) (a0 : Array Value) (hw : ∀ d ∈ tables_1, d.before a0 Z = true) (ws : List Jvm.Cond) (q1 : Int64) (q2 : Int64) (p3 : Int32) (h0 : Heap) (n0 : Nat) (Z0 : n0 ≤ h0.size) :
    MetFree l x (head1 (Jvm.Cond.code x code maxLocals ret :: ws) room_1) (fun a U => a = #[(.long q1), (.long q2), (.int p3)] ∧ Z.Warmed39 U.vm ∧ U.heap = h0) (fun _ _ _ _ _ => True) (fun _ U o U' => ∃ v L, o = .returned v ∧ Q0 Z q1 q2 p3 h0 n0 v U'.heap L ∧ FrameEnd U o U' L room_1.cells room_1.slots) := by
  refine MetFree.of_bodySF (plainFor_of_name pn_1) hisR ?_
  intro p e s m args below meth c s₁ Bd hml0 hP hK
  obtain ⟨rfl, hZ, hh⟩ := hP
  have hx := Bd.exec
  have hby := Bd.bytes
  have hml : c.maxLocals = 12 := hml0
  have hown : s.vm.findClass "com/example/tidegraph/tidegraph/graph/UserCompareToPinLaw" = some m.cls := findClass_of_methodNamed Bd.named
  have hnm := (name_of_methodNamed Bd.named Bd.method).1
  have X0 : Stand p l e room_1 s m #[(.long q1), (.long q2), (.int p3)] below meth c s₁ [] 0 0 := Stand.of_body Bd
  have e0 : s₁.heap = h0 := by rw [← hh, Bd.state]; rfl
  have N0 := Fr.nil n0
  show Go p e below s (Q0 Z q1 q2 p3 h0 n0) room_1.cells room_1.slots _
  refine Go.via (S' := s₁.setTop (mkF m 0 #[.val (.long q1), .second, .val (.long q2), .second, .val (.int p3), .unset, .unset, .unset, .unset, .unset, .unset, .unset] [])) (fun t k => castTop (ef_0 m q1 q2 p3) k) ?_
  refine Go.via (S' := s₁.setTop (mkF m 2 #[.val (.long q1), .second, .val (.long q2), .second, .val (.int p3), .unset, .unset, .unset, .unset, .unset, .unset, .unset] [(.int p3)])) (fun _ k => XS.iload X0.here hx rfl (hb hby at_0) rfl k) ?_
  refine Go.via (S' := s₁.setTop (mkF m 3 #[.val (.long q1), .second, .val (.long q2), .second, .val (.int p3), .unset, .unset, .unset, .unset, .unset, .unset, .unset] [(.int (3 : Int32)), (.int p3)])) (fun _ k => XS.iconst X0.here hx rfl (hb hby at_2) k) ?_
  refine Go.via (S' := s₁.setTop (mkF m 4 #[.val (.long q1), .second, .val (.long q2), .second, .val (.int p3), .unset, .unset, .unset, .unset, .unset, .unset, .unset] [(.int (p3 &&& (3 : Int32)))])) (fun _ k => XS.iand X0.here hx rfl (hb hby at_3) rfl k) ?_
  refine Go.via (S' := s₁.setTop (mkF m 6 #[.val (.long q1), .second, .val (.long q2), .second, .val (.int p3), .val (.int (p3 &&& (3 : Int32))), .unset, .unset, .unset, .unset, .unset, .unset] [])) (fun _ k => XS.istore X0.here hx rfl (hb hby at_4) rfl (l' := #[.val (.long q1), .second, .val (.long q2), .second, .val (.int p3), .val (.int (p3 &&& (3 : Int32))), .unset, .unset, .unset, .unset, .unset, .unset]) rfl k) ?_
  refine Go.via (S' := s₁.setTop (mkF m 7 #[.val (.long q1), .second, .val (.long q2), .second, .val (.int p3), .val (.int (p3 &&& (3 : Int32))), .unset, .unset, .unset, .unset, .unset, .unset] [(.long q2)])) (fun _ k => XS.lloadN X0.here hx rfl (hb hby at_6) rfl k) ?_
  refine Go.via (S' := s₁.setTop (mkF m 9 #[.val (.long q1), .second, .val (.long q2), .second, .val (.int p3), .val (.int (p3 &&& (3 : Int32))), .val (.long q2), .second, .unset, .unset, .unset, .unset] [])) (fun _ k => XS.lstore X0.here hx rfl (hb hby at_7) rfl (l' := #[.val (.long q1), .second, .val (.long q2), .second, .val (.int p3), .val (.int (p3 &&& (3 : Int32))), .val (.long q2), .second, .unset, .unset, .unset, .unset]) rfl k) ?_
  suffices J46 : ∀ (bb : Int64), Go p e below s (Q0 Z q1 q2 p3 h0 n0) room_1.cells room_1.slots (s₁.setTop (mkF m 46 #[.val (.long q1), .second, .val (.long q2), .second, .val (.int p3), .val (.int (p3 &&& (3 : Int32))), .val (.long bb), .second, .unset, .unset, .unset, .unset] [])) by
    refine Go.via (S' := s₁.setTop (mkF m 11 #[.val (.long q1), .second, .val (.long q2), .second, .val (.int p3), .val (.int (p3 &&& (3 : Int32))), .val (.long q2), .second, .unset, .unset, .unset, .unset] [(.int (p3 &&& (3 : Int32)))])) (fun _ k => XS.iload X0.here hx rfl (hb hby at_9) rfl k) ?_
    refine Go.via (S' := s₁.setTop (mkF m 12 #[.val (.long q1), .second, .val (.long q2), .second, .val (.int p3), .val (.int (p3 &&& (3 : Int32))), .val (.long q2), .second, .unset, .unset, .unset, .unset] [(.int (1 : Int32)), (.int (p3 &&& (3 : Int32)))])) (fun _ k => XS.iconst X0.here hx rfl (hb hby at_11) k) ?_
    rcases Decidable.em ((p3 &&& (3 : Int32)) = (1 : Int32)) with hc12 | hc12
    · refine Go.via (S' := s₁.setTop (mkF m 15 #[.val (.long q1), .second, .val (.long q2), .second, .val (.int p3), .val (.int (p3 &&& (3 : Int32))), .val (.long q2), .second, .unset, .unset, .unset, .unset] [])) (fun _ k => XS.icmpNo X0.here hx rfl (hb hby at_12) rfl (teq hc12).2 k) ?_
      refine Go.via (S' := s₁.setTop (mkF m 16 #[.val (.long q1), .second, .val (.long q2), .second, .val (.int p3), .val (.int (p3 &&& (3 : Int32))), .val (.long q2), .second, .unset, .unset, .unset, .unset] [(.long q1)])) (fun _ k => XS.lloadN X0.here hx rfl (hb hby at_15) rfl k) ?_
      refine Go.via (S' := s₁.setTop (mkF m 18 #[.val (.long q1), .second, .val (.long q2), .second, .val (.int p3), .val (.int (p3 &&& (3 : Int32))), .val (.long q1), .second, .unset, .unset, .unset, .unset] [])) (fun _ k => XS.lstore X0.here hx rfl (hb hby at_16) rfl (l' := #[.val (.long q1), .second, .val (.long q2), .second, .val (.int p3), .val (.int (p3 &&& (3 : Int32))), .val (.long q1), .second, .unset, .unset, .unset, .unset]) rfl k) ?_
      refine Go.via (S' := s₁.setTop (mkF m 46 #[.val (.long q1), .second, .val (.long q2), .second, .val (.int p3), .val (.int (p3 &&& (3 : Int32))), .val (.long q1), .second, .unset, .unset, .unset, .unset] [])) (fun _ k => XS.goto X0.here hx rfl (pc0 := 18) (pc' := 46) rfl (hb hby at_18) (by decide) (by decide) k) ?_
      exact J46 _
    · refine Go.via (S' := s₁.setTop (mkF m 21 #[.val (.long q1), .second, .val (.long q2), .second, .val (.int p3), .val (.int (p3 &&& (3 : Int32))), .val (.long q2), .second, .unset, .unset, .unset, .unset] [])) (fun _ k => XS.icmpYes X0.here hx rfl (pc0 := 12) (pc' := 21) rfl (hb hby at_12) rfl (feq hc12).2 (by decide) (by decide) k) ?_
      refine Go.via (S' := s₁.setTop (mkF m 23 #[.val (.long q1), .second, .val (.long q2), .second, .val (.int p3), .val (.int (p3 &&& (3 : Int32))), .val (.long q2), .second, .unset, .unset, .unset, .unset] [(.int (p3 &&& (3 : Int32)))])) (fun _ k => XS.iload X0.here hx rfl (hb hby at_21) rfl k) ?_
      refine Go.via (S' := s₁.setTop (mkF m 24 #[.val (.long q1), .second, .val (.long q2), .second, .val (.int p3), .val (.int (p3 &&& (3 : Int32))), .val (.long q2), .second, .unset, .unset, .unset, .unset] [(.int (2 : Int32)), (.int (p3 &&& (3 : Int32)))])) (fun _ k => XS.iconst X0.here hx rfl (hb hby at_23) k) ?_
      rcases Decidable.em ((p3 &&& (3 : Int32)) = (2 : Int32)) with hc24 | hc24
      · refine Go.via (S' := s₁.setTop (mkF m 27 #[.val (.long q1), .second, .val (.long q2), .second, .val (.int p3), .val (.int (p3 &&& (3 : Int32))), .val (.long q2), .second, .unset, .unset, .unset, .unset] [])) (fun _ k => XS.icmpNo X0.here hx rfl (hb hby at_24) rfl (teq hc24).2 k) ?_
        refine Go.via (S' := s₁.setTop (mkF m 28 #[.val (.long q1), .second, .val (.long q2), .second, .val (.int p3), .val (.int (p3 &&& (3 : Int32))), .val (.long q2), .second, .unset, .unset, .unset, .unset] [(.long q1)])) (fun _ k => XS.lloadN X0.here hx rfl (hb hby at_27) rfl k) ?_
        refine Go.via (S' := s₁.setTop (mkF m 29 #[.val (.long q1), .second, .val (.long q2), .second, .val (.int p3), .val (.int (p3 &&& (3 : Int32))), .val (.long q2), .second, .unset, .unset, .unset, .unset] [(.long (1 : Int64)), (.long q1)])) (fun _ k => XS.lconst X0.here hx rfl (hb hby at_28) k) ?_
        refine Go.via (S' := s₁.setTop (mkF m 30 #[.val (.long q1), .second, .val (.long q2), .second, .val (.int p3), .val (.int (p3 &&& (3 : Int32))), .val (.long q2), .second, .unset, .unset, .unset, .unset] [(.long (q1 + (1 : Int64)))])) (fun _ k => XS.ladd X0.here hx rfl (hb hby at_29) rfl k) ?_
        refine Go.via (S' := s₁.setTop (mkF m 32 #[.val (.long q1), .second, .val (.long q2), .second, .val (.int p3), .val (.int (p3 &&& (3 : Int32))), .val (.long (q1 + (1 : Int64))), .second, .unset, .unset, .unset, .unset] [])) (fun _ k => XS.lstore X0.here hx rfl (hb hby at_30) rfl (l' := #[.val (.long q1), .second, .val (.long q2), .second, .val (.int p3), .val (.int (p3 &&& (3 : Int32))), .val (.long (q1 + (1 : Int64))), .second, .unset, .unset, .unset, .unset]) rfl k) ?_
        refine Go.via (S' := s₁.setTop (mkF m 46 #[.val (.long q1), .second, .val (.long q2), .second, .val (.int p3), .val (.int (p3 &&& (3 : Int32))), .val (.long (q1 + (1 : Int64))), .second, .unset, .unset, .unset, .unset] [])) (fun _ k => XS.goto X0.here hx rfl (pc0 := 32) (pc' := 46) rfl (hb hby at_32) (by decide) (by decide) k) ?_
        exact J46 _
      · refine Go.via (S' := s₁.setTop (mkF m 35 #[.val (.long q1), .second, .val (.long q2), .second, .val (.int p3), .val (.int (p3 &&& (3 : Int32))), .val (.long q2), .second, .unset, .unset, .unset, .unset] [])) (fun _ k => XS.icmpYes X0.here hx rfl (pc0 := 24) (pc' := 35) rfl (hb hby at_24) rfl (feq hc24).2 (by decide) (by decide) k) ?_
        refine Go.via (S' := s₁.setTop (mkF m 37 #[.val (.long q1), .second, .val (.long q2), .second, .val (.int p3), .val (.int (p3 &&& (3 : Int32))), .val (.long q2), .second, .unset, .unset, .unset, .unset] [(.int (p3 &&& (3 : Int32)))])) (fun _ k => XS.iload X0.here hx rfl (hb hby at_35) rfl k) ?_
        refine Go.via (S' := s₁.setTop (mkF m 38 #[.val (.long q1), .second, .val (.long q2), .second, .val (.int p3), .val (.int (p3 &&& (3 : Int32))), .val (.long q2), .second, .unset, .unset, .unset, .unset] [(.int (3 : Int32)), (.int (p3 &&& (3 : Int32)))])) (fun _ k => XS.iconst X0.here hx rfl (hb hby at_37) k) ?_
        rcases Decidable.em ((p3 &&& (3 : Int32)) = (3 : Int32)) with hc38 | hc38
        · refine Go.via (S' := s₁.setTop (mkF m 41 #[.val (.long q1), .second, .val (.long q2), .second, .val (.int p3), .val (.int (p3 &&& (3 : Int32))), .val (.long q2), .second, .unset, .unset, .unset, .unset] [])) (fun _ k => XS.icmpNo X0.here hx rfl (hb hby at_38) rfl (teq hc38).2 k) ?_
          refine Go.via (S' := s₁.setTop (mkF m 42 #[.val (.long q1), .second, .val (.long q2), .second, .val (.int p3), .val (.int (p3 &&& (3 : Int32))), .val (.long q2), .second, .unset, .unset, .unset, .unset] [(.long q1)])) (fun _ k => XS.lloadN X0.here hx rfl (hb hby at_41) rfl k) ?_
          refine Go.via (S' := s₁.setTop (mkF m 43 #[.val (.long q1), .second, .val (.long q2), .second, .val (.int p3), .val (.int (p3 &&& (3 : Int32))), .val (.long q2), .second, .unset, .unset, .unset, .unset] [(.long (1 : Int64)), (.long q1)])) (fun _ k => XS.lconst X0.here hx rfl (hb hby at_42) k) ?_
          refine Go.via (S' := s₁.setTop (mkF m 44 #[.val (.long q1), .second, .val (.long q2), .second, .val (.int p3), .val (.int (p3 &&& (3 : Int32))), .val (.long q2), .second, .unset, .unset, .unset, .unset] [(.long (q1 - (1 : Int64)))])) (fun _ k => XS.lsub X0.here hx rfl (hb hby at_43) rfl k) ?_
          refine Go.via (S' := s₁.setTop (mkF m 46 #[.val (.long q1), .second, .val (.long q2), .second, .val (.int p3), .val (.int (p3 &&& (3 : Int32))), .val (.long (q1 - (1 : Int64))), .second, .unset, .unset, .unset, .unset] [])) (fun _ k => XS.lstore X0.here hx rfl (hb hby at_44) rfl (l' := #[.val (.long q1), .second, .val (.long q2), .second, .val (.int p3), .val (.int (p3 &&& (3 : Int32))), .val (.long (q1 - (1 : Int64))), .second, .unset, .unset, .unset, .unset]) rfl k) ?_
          exact J46 _
        · refine Go.via (S' := s₁.setTop (mkF m 46 #[.val (.long q1), .second, .val (.long q2), .second, .val (.int p3), .val (.int (p3 &&& (3 : Int32))), .val (.long q2), .second, .unset, .unset, .unset, .unset] [])) (fun _ k => XS.icmpYes X0.here hx rfl (pc0 := 38) (pc' := 46) rfl (hb hby at_38) rfl (feq hc38).2 (by decide) (by decide) k) ?_
          exact J46 _
  intro bb
  obtain ⟨T1, h1, X1, e1, E1, A1, D1, -, st1⟩ := newO X0 hx hZ hown (hw _ (List.mem_of_getElem? (i := 0) rfl)) (hw _ (List.mem_of_getElem? (i := 1) rfl)) (hw _ (List.mem_of_getElem? (i := 2) rfl)) e0 (g := (mkF m 46 #[.val (.long q1), .second, .val (.long q2), .second, .val (.int p3), .val (.int (p3 &&& (3 : Int32))), .val (.long bb), .second, .unset, .unset, .unset, .unset] [])) rfl (hb hby at_46) (by decide) (by decide)
  obtain ⟨b1, g1⟩ : ∃ z, z = h0.size := ⟨_, rfl⟩
  rw [← g1] at A1 D1 st1
  have g2 : n0 ≤ b1 := Nat.le_trans Z0 (Nat.le_of_eq g1.symm)
  have z3 := Nat.le_trans Z0 E1.1
  have F4 : Fld Z h1 b1 "com/example/tidegraph/tidegraph/graph/User" "id" "J" (.long (0 : Int64)) := D1 (Or.inr (hw _ (List.mem_of_getElem? (i := 11) rfl))) (ty := .long) (by decide)
  have F5 : Fld Z h1 b1 "com/example/tidegraph/tidegraph/graph/User" "name" "[B" .null := D1 (Or.inr (hw _ (List.mem_of_getElem? (i := 13) rfl))) (ty := (.array .byte)) (by decide)
  refine Go.via (S' := T1.setTop (mkF m 49 #[.val (.long q1), .second, .val (.long q2), .second, .val (.int p3), .val (.int (p3 &&& (3 : Int32))), .val (.long bb), .second, .unset, .unset, .unset, .unset] [(.ref b1)])) (fun _ k => st1 _ k) ?_
  refine Go.via (S' := T1.setTop (mkF m 50 #[.val (.long q1), .second, .val (.long q2), .second, .val (.int p3), .val (.int (p3 &&& (3 : Int32))), .val (.long bb), .second, .unset, .unset, .unset, .unset] [(.ref b1), (.ref b1)])) (fun _ k => XS.dup X1.here hx rfl (hb hby at_49) rfl rfl k) ?_
  refine Go.via (S' := T1.setTop (mkF m 51 #[.val (.long q1), .second, .val (.long q2), .second, .val (.int p3), .val (.int (p3 &&& (3 : Int32))), .val (.long bb), .second, .unset, .unset, .unset, .unset] [(.long q1), (.ref b1), (.ref b1)])) (fun _ k => XS.lloadN X1.here hx rfl (hb hby at_50) rfl k) ?_
  refine Go.via (S' := T1.setTop (mkF m 52 #[.val (.long q1), .second, .val (.long q2), .second, .val (.int p3), .val (.int (p3 &&& (3 : Int32))), .val (.long bb), .second, .unset, .unset, .unset, .unset] [(.int (0 : Int32)), (.long q1), (.ref b1), (.ref b1)])) (fun _ k => XS.iconst X1.here hx rfl (hb hby at_51) k) ?_
  obtain ⟨T6, h6, k6, X6, e6, E6, A6, st6⟩ := newP X1 hx hZ (hw _ (List.mem_of_getElem? (i := 3) rfl)) e1 (g := (mkF m 52 #[.val (.long q1), .second, .val (.long q2), .second, .val (.int p3), .val (.int (p3 &&& (3 : Int32))), .val (.long bb), .second, .unset, .unset, .unset, .unset] [(.int (0 : Int32)), (.long q1), (.ref b1), (.ref b1)])) rfl (hb hby at_52) rfl (by decide) (cap := 0) (by decide) (by decide) (by decide) (by decide)
  obtain ⟨b6, g6⟩ : ∃ z, z = h1.size := ⟨_, rfl⟩
  rw [← g6] at A6 st6
  have ne7 : b1 ≠ b6 := Nat.ne_of_lt (Nat.lt_of_lt_of_le A1.lt (Nat.le_of_eq g6.symm))
  have g8 : n0 ≤ b6 := Nat.le_trans z3 (Nat.le_of_eq g6.symm)
  have f9 := A1.ext E6
  have f10 := F4.ext E6
  have f11 := F5.ext E6
  have z12 := Nat.le_trans z3 E6.1
  have V13 : Arv Z h6 b6 k6 .byte (0 : Int32) [] (.int (0 : Int32)) := (Arv.new A6 (by decide))
  refine Go.via (S' := T6.setTop (mkF m 54 #[.val (.long q1), .second, .val (.long q2), .second, .val (.int p3), .val (.int (p3 &&& (3 : Int32))), .val (.long bb), .second, .unset, .unset, .unset, .unset] [(.ref b6), (.long q1), (.ref b1), (.ref b1)])) (fun _ k => st6 _ k) ?_
  obtain ⟨_, _, ⟨T14, L14, k14, n14⟩, -, X14, ⟨Lc14, hQ14, l14, y14, z14⟩, st14⟩ := X6.specialBack hx (y := (⟨"com/example/tidegraph/tidegraph/graph/User", "<init>", "(J[B)V"⟩ : MethodName)) rfl hown (mvT hZ (hw _ (List.mem_of_getElem? (i := 4) rfl))) (mvT hZ (hw _ (List.mem_of_getElem? (i := 5) rfl))) (mvT hZ (hw _ (List.mem_of_getElem? (i := 6) rfl))) (by decide) (backOf (W := 1) (rm1 l Z a0 hw [] b1 q1 b6 h6 n0 z12 f9 f10 f11 g2) hZ (hw _ (List.mem_of_getElem? (i := 6) rfl)) (hw _ (List.mem_of_getElem? (i := 2) rfl)) (by decide) (by decide)) (g := (mkF m 54 #[.val (.long q1), .second, .val (.long q2), .second, .val (.int p3), .val (.int (p3 &&& (3 : Int32))), .val (.long bb), .second, .unset, .unset, .unset, .unset] [(.ref b6), (.long q1), (.ref b1), (.ref b1)])) rfl (by rw [hml]; rfl) (Steps.refl _) (a := b1) (argsL := [(.long q1), (.ref b6)]) (rest := [(.ref b1)]) (lenOf pd_1 rfl) rfl (by show 2 * 0 + _ ≤ _; exact Nat.le_of_eq rfl) (hb hby at_54) (fun _ _ => ⟨rfl, e6, (by decide : 2 + 0 ≤ _), (by decide : 4 + 0 ≤ _)⟩)
  dsimp only [Pt.U, Pt.locs, Pt.cells, Pt.slots] at X14 l14 y14 z14 st14 hQ14
  subst l14 y14 z14
  obtain ⟨rfl, N14q, K14, F14⟩ := hQ14
  have N15 := Fr.app N0 N14q
  have f16 := f9.keep K14
  have f17 := V13.keep K14 (ninS (Ne.symm ne7) nin0)
  have z18 := Nat.le_trans z12 K14.1
  refine Go.via (S' := T14.setTop (mkF m 57 #[.val (.long q1), .second, .val (.long q2), .second, .val (.int p3), .val (.int (p3 &&& (3 : Int32))), .val (.long bb), .second, .unset, .unset, .unset, .unset] [(.ref b1)])) (fun _ k => st14.trans k) ?_
  refine Go.via (S' := T14.setTop (mkF m 59 #[.val (.long q1), .second, .val (.long q2), .second, .val (.int p3), .val (.int (p3 &&& (3 : Int32))), .val (.long bb), .second, .val (.ref b1), .unset, .unset, .unset] [])) (fun _ k => XS.astore X14.here hx rfl (hb hby at_57) rfl rfl (l' := #[.val (.long q1), .second, .val (.long q2), .second, .val (.int p3), .val (.int (p3 &&& (3 : Int32))), .val (.long bb), .second, .val (.ref b1), .unset, .unset, .unset]) rfl k) ?_
  obtain ⟨T19, h19, X19, e19, E19, A19, D19, -, st19⟩ := newO X14 hx hZ hown (hw _ (List.mem_of_getElem? (i := 0) rfl)) (hw _ (List.mem_of_getElem? (i := 1) rfl)) (hw _ (List.mem_of_getElem? (i := 2) rfl)) rfl (g := (mkF m 59 #[.val (.long q1), .second, .val (.long q2), .second, .val (.int p3), .val (.int (p3 &&& (3 : Int32))), .val (.long bb), .second, .val (.ref b1), .unset, .unset, .unset] [])) rfl (hb hby at_59) (by decide) (by decide)
  obtain ⟨b19, g19⟩ : ∃ z, z = T14.heap.size := ⟨_, rfl⟩
  rw [← g19] at A19 D19 st19
  have ne20 : b1 ≠ b19 := Nat.ne_of_lt (Nat.lt_of_lt_of_le f16.lt (Nat.le_of_eq g19.symm))
  have ne21 : b6 ≠ b19 := Nat.ne_of_lt (Nat.lt_of_lt_of_le f17.lt (Nat.le_of_eq g19.symm))
  have g22 : n0 ≤ b19 := Nat.le_trans z18 (Nat.le_of_eq g19.symm)
  have f23 := f16.ext E19
  have f24 := f17.ext E19
  have f25 := F14.ext E19
  have z26 := Nat.le_trans z18 E19.1
  have F27 : Fld Z h19 b19 "com/example/tidegraph/tidegraph/graph/User" "id" "J" (.long (0 : Int64)) := D19 (Or.inr (hw _ (List.mem_of_getElem? (i := 11) rfl))) (ty := .long) (by decide)
  have F28 : Fld Z h19 b19 "com/example/tidegraph/tidegraph/graph/User" "name" "[B" .null := D19 (Or.inr (hw _ (List.mem_of_getElem? (i := 13) rfl))) (ty := (.array .byte)) (by decide)
  refine Go.via (S' := T19.setTop (mkF m 62 #[.val (.long q1), .second, .val (.long q2), .second, .val (.int p3), .val (.int (p3 &&& (3 : Int32))), .val (.long bb), .second, .val (.ref b1), .unset, .unset, .unset] [(.ref b19)])) (fun _ k => st19 _ k) ?_
  refine Go.via (S' := T19.setTop (mkF m 63 #[.val (.long q1), .second, .val (.long q2), .second, .val (.int p3), .val (.int (p3 &&& (3 : Int32))), .val (.long bb), .second, .val (.ref b1), .unset, .unset, .unset] [(.ref b19), (.ref b19)])) (fun _ k => XS.dup X19.here hx rfl (hb hby at_62) rfl rfl k) ?_
  refine Go.via (S' := T19.setTop (mkF m 65 #[.val (.long q1), .second, .val (.long q2), .second, .val (.int p3), .val (.int (p3 &&& (3 : Int32))), .val (.long bb), .second, .val (.ref b1), .unset, .unset, .unset] [(.long bb), (.ref b19), (.ref b19)])) (fun _ k => XS.lload X19.here hx rfl (hb hby at_63) rfl k) ?_
  refine Go.via (S' := T19.setTop (mkF m 66 #[.val (.long q1), .second, .val (.long q2), .second, .val (.int p3), .val (.int (p3 &&& (3 : Int32))), .val (.long bb), .second, .val (.ref b1), .unset, .unset, .unset] [(.int (0 : Int32)), (.long bb), (.ref b19), (.ref b19)])) (fun _ k => XS.iconst X19.here hx rfl (hb hby at_65) k) ?_
  obtain ⟨T29, h29, k29, X29, e29, E29, A29, st29⟩ := newP X19 hx hZ (hw _ (List.mem_of_getElem? (i := 3) rfl)) e19 (g := (mkF m 66 #[.val (.long q1), .second, .val (.long q2), .second, .val (.int p3), .val (.int (p3 &&& (3 : Int32))), .val (.long bb), .second, .val (.ref b1), .unset, .unset, .unset] [(.int (0 : Int32)), (.long bb), (.ref b19), (.ref b19)])) rfl (hb hby at_66) rfl (by decide) (cap := 0) (by decide) (by decide) (by decide) (by decide)
  obtain ⟨b29, g29⟩ : ∃ z, z = h19.size := ⟨_, rfl⟩
  rw [← g29] at A29 st29
  have ne30 : b1 ≠ b29 := Nat.ne_of_lt (Nat.lt_of_lt_of_le f23.lt (Nat.le_of_eq g29.symm))
  have ne31 : b19 ≠ b29 := Nat.ne_of_lt (Nat.lt_of_lt_of_le A19.lt (Nat.le_of_eq g29.symm))
  have ne32 : b6 ≠ b29 := Nat.ne_of_lt (Nat.lt_of_lt_of_le f24.lt (Nat.le_of_eq g29.symm))
  have g33 : n0 ≤ b29 := Nat.le_trans z26 (Nat.le_of_eq g29.symm)
  have f34 := f23.ext E29
  have f35 := f24.ext E29
  have f36 := f25.ext E29
  have f37 := A19.ext E29
  have f38 := F27.ext E29
  have f39 := F28.ext E29
  have z40 := Nat.le_trans z26 E29.1
  have V41 : Arv Z h29 b29 k29 .byte (0 : Int32) [] (.int (0 : Int32)) := (Arv.new A29 (by decide))
  refine Go.via (S' := T29.setTop (mkF m 68 #[.val (.long q1), .second, .val (.long q2), .second, .val (.int p3), .val (.int (p3 &&& (3 : Int32))), .val (.long bb), .second, .val (.ref b1), .unset, .unset, .unset] [(.ref b29), (.long bb), (.ref b19), (.ref b19)])) (fun _ k => st29 _ k) ?_
  obtain ⟨_, _, ⟨T42, L42, k42, n42⟩, -, X42, ⟨Lc42, hQ42, l42, y42, z42⟩, st42⟩ := X29.specialBack hx (y := (⟨"com/example/tidegraph/tidegraph/graph/User", "<init>", "(J[B)V"⟩ : MethodName)) rfl hown (mvT hZ (hw _ (List.mem_of_getElem? (i := 4) rfl))) (mvT hZ (hw _ (List.mem_of_getElem? (i := 5) rfl))) (mvT hZ (hw _ (List.mem_of_getElem? (i := 6) rfl))) (by decide) (backOf (W := 1) (rm1 l Z a0 hw [] b19 bb b29 h29 n0 z40 f37 f38 f39 g22) hZ (hw _ (List.mem_of_getElem? (i := 6) rfl)) (hw _ (List.mem_of_getElem? (i := 2) rfl)) (by decide) (by decide)) (g := (mkF m 68 #[.val (.long q1), .second, .val (.long q2), .second, .val (.int p3), .val (.int (p3 &&& (3 : Int32))), .val (.long bb), .second, .val (.ref b1), .unset, .unset, .unset] [(.ref b29), (.long bb), (.ref b19), (.ref b19)])) rfl (by rw [hml]; rfl) (Steps.refl _) (a := b19) (argsL := [(.long bb), (.ref b29)]) (rest := [(.ref b19)]) (lenOf pd_1 rfl) rfl (by show 2 * 0 + _ ≤ _; exact Nat.le_of_eq rfl) (hb hby at_68) (fun _ _ => ⟨rfl, e29, (by decide : 4 + 0 ≤ _), (by decide : 8 + 0 ≤ _)⟩)
  dsimp only [Pt.U, Pt.locs, Pt.cells, Pt.slots] at X42 l42 y42 z42 st42 hQ42
  subst l42 y42 z42
  obtain ⟨rfl, N42q, K42, F42⟩ := hQ42
  have N43 := Fr.app N15 N42q
  have f44 := f34.keep K42
  have f45 := f35.keep K42 (ninS ne21 nin0)
  have f46 := f36.keep K42 (ninS ne20 nin0)
  have f47 := f37.keep K42
  have f48 := V41.keep K42 (ninS (Ne.symm ne31) nin0)
  have z49 := Nat.le_trans z40 K42.1
  refine Go.via (S' := T42.setTop (mkF m 71 #[.val (.long q1), .second, .val (.long q2), .second, .val (.int p3), .val (.int (p3 &&& (3 : Int32))), .val (.long bb), .second, .val (.ref b1), .unset, .unset, .unset] [(.ref b19)])) (fun _ k => st42.trans k) ?_
  refine Go.via (S' := T42.setTop (mkF m 73 #[.val (.long q1), .second, .val (.long q2), .second, .val (.int p3), .val (.int (p3 &&& (3 : Int32))), .val (.long bb), .second, .val (.ref b1), .val (.ref b19), .unset, .unset] [])) (fun _ k => XS.astore X42.here hx rfl (hb hby at_71) rfl rfl (l' := #[.val (.long q1), .second, .val (.long q2), .second, .val (.int p3), .val (.int (p3 &&& (3 : Int32))), .val (.long bb), .second, .val (.ref b1), .val (.ref b19), .unset, .unset]) rfl k) ?_
  refine Go.via (S' := T42.setTop (mkF m 75 #[.val (.long q1), .second, .val (.long q2), .second, .val (.int p3), .val (.int (p3 &&& (3 : Int32))), .val (.long bb), .second, .val (.ref b1), .val (.ref b19), .unset, .unset] [(.ref b1)])) (fun _ k => XS.aload X42.here hx rfl (hb hby at_73) rfl rfl k) ?_
  refine Go.via (S' := T42.setTop (mkF m 77 #[.val (.long q1), .second, .val (.long q2), .second, .val (.int p3), .val (.int (p3 &&& (3 : Int32))), .val (.long bb), .second, .val (.ref b1), .val (.ref b19), .unset, .unset] [(.ref b19), (.ref b1)])) (fun _ k => XS.aload X42.here hx rfl (hb hby at_75) rfl rfl k) ?_
  obtain ⟨cq50, kq50, q50a, q50b, q50c⟩ := isOf hZ rfl f44
  obtain ⟨_, _, ⟨T50, L50, k50, n50⟩, -, X50, ⟨Lc50, hQ50, l50, y50, z50⟩, st50⟩ := X42.virtualBack hx (y := (⟨"com/example/tidegraph/tidegraph/graph/User", "compareTo", "(Lcom/example/tidegraph/tidegraph/graph/User;)I"⟩ : MethodName)) (z := (⟨"com/example/tidegraph/tidegraph/graph/User", "compareTo", "(Lcom/example/tidegraph/tidegraph/graph/User;)I"⟩ : MethodName)) hown (mvT hZ (hw _ (List.mem_of_getElem? (i := 14) rfl))) (mvT hZ (hw _ (List.mem_of_getElem? (i := 15) rfl))) (notFace_of_selects (args := #[]) (mvT hZ (hw _ (List.mem_of_getElem? (i := 17) rfl)))) (mvT hZ (hw _ (List.mem_of_getElem? (i := 17) rfl))) (mvT hZ (hw _ (List.mem_of_getElem? (i := 16) rfl))) (by decide) (backOf (W := 0) (rm3 l Z a0 hw [] b1 b19 q1 bb T42.heap n0 z49 f46 F42) hZ (hw _ (List.mem_of_getElem? (i := 18) rfl)) (hw _ (List.mem_of_getElem? (i := 2) rfl)) (by decide) (by decide)) q50a q50c (g := (mkF m 77 #[.val (.long q1), .second, .val (.long q2), .second, .val (.int p3), .val (.int (p3 &&& (3 : Int32))), .val (.long bb), .second, .val (.ref b1), .val (.ref b19), .unset, .unset] [(.ref b19), (.ref b1)])) rfl (by rw [hml]; rfl) (Steps.refl _) (argsL := [(.ref b19)]) (rest := []) (lenOf pd_2 rfl) rfl (by show 2 * 0 + _ ≤ _; exact Nat.le_of_eq rfl) (hb hby at_77) (fun _ _ => ⟨rfl, rfl, (by decide : 4 + 0 ≤ _), (by decide : 8 + 0 ≤ _)⟩)
  dsimp only [Pt.U, Pt.locs, Pt.cells, Pt.slots] at X50 l50 y50 z50 st50 hQ50
  subst l50 y50 z50
  obtain ⟨r50, rfl, N50q, e50, hr50⟩ := hQ50
  have N51 := Fr.app N43 N50q
  refine Go.via (S' := T50.setTop (mkF m 80 #[.val (.long q1), .second, .val (.long q2), .second, .val (.int p3), .val (.int (p3 &&& (3 : Int32))), .val (.long bb), .second, .val (.ref b1), .val (.ref b19), .unset, .unset] [(.int r50)])) (fun _ k => st50.trans k) ?_
  refine Go.via (S' := T50.setTop (mkF m 82 #[.val (.long q1), .second, .val (.long q2), .second, .val (.int p3), .val (.int (p3 &&& (3 : Int32))), .val (.long bb), .second, .val (.ref b1), .val (.ref b19), .val (.int r50), .unset] [])) (fun _ k => XS.istore X50.here hx rfl (hb hby at_80) rfl (l' := #[.val (.long q1), .second, .val (.long q2), .second, .val (.int p3), .val (.int (p3 &&& (3 : Int32))), .val (.long bb), .second, .val (.ref b1), .val (.ref b19), .val (.int r50), .unset]) rfl k) ?_
  refine Go.via (S' := T50.setTop (mkF m 84 #[.val (.long q1), .second, .val (.long q2), .second, .val (.int p3), .val (.int (p3 &&& (3 : Int32))), .val (.long bb), .second, .val (.ref b1), .val (.ref b19), .val (.int r50), .unset] [(.ref b19)])) (fun _ k => XS.aload X50.here hx rfl (hb hby at_82) rfl rfl k) ?_
  refine Go.via (S' := T50.setTop (mkF m 86 #[.val (.long q1), .second, .val (.long q2), .second, .val (.int p3), .val (.int (p3 &&& (3 : Int32))), .val (.long bb), .second, .val (.ref b1), .val (.ref b19), .val (.int r50), .unset] [(.ref b1), (.ref b19)])) (fun _ k => XS.aload X50.here hx rfl (hb hby at_84) rfl rfl k) ?_
  obtain ⟨cq52, kq52, q52a, q52b, q52c⟩ := isOf hZ e50 f47
  obtain ⟨_, _, ⟨T52, L52, k52, n52⟩, -, X52, ⟨Lc52, hQ52, l52, y52, z52⟩, st52⟩ := X50.virtualBack hx (y := (⟨"com/example/tidegraph/tidegraph/graph/User", "compareTo", "(Lcom/example/tidegraph/tidegraph/graph/User;)I"⟩ : MethodName)) (z := (⟨"com/example/tidegraph/tidegraph/graph/User", "compareTo", "(Lcom/example/tidegraph/tidegraph/graph/User;)I"⟩ : MethodName)) hown (mvT hZ (hw _ (List.mem_of_getElem? (i := 14) rfl))) (mvT hZ (hw _ (List.mem_of_getElem? (i := 15) rfl))) (notFace_of_selects (args := #[]) (mvT hZ (hw _ (List.mem_of_getElem? (i := 17) rfl)))) (mvT hZ (hw _ (List.mem_of_getElem? (i := 17) rfl))) (mvT hZ (hw _ (List.mem_of_getElem? (i := 16) rfl))) (by decide) (backOf (W := 0) (rm3 l Z a0 hw [] b19 b1 bb q1 T42.heap n0 z49 F42 f46) hZ (hw _ (List.mem_of_getElem? (i := 18) rfl)) (hw _ (List.mem_of_getElem? (i := 2) rfl)) (by decide) (by decide)) q52a q52c (g := (mkF m 86 #[.val (.long q1), .second, .val (.long q2), .second, .val (.int p3), .val (.int (p3 &&& (3 : Int32))), .val (.long bb), .second, .val (.ref b1), .val (.ref b19), .val (.int r50), .unset] [(.ref b1), (.ref b19)])) rfl (by rw [hml]; rfl) (Steps.refl _) (argsL := [(.ref b1)]) (rest := []) (lenOf pd_2 rfl) rfl (by show 2 * 0 + _ ≤ _; exact Nat.le_of_eq rfl) (hb hby at_86) (fun _ _ => ⟨rfl, e50, (by decide : 4 + 0 ≤ _), (by decide : 8 + 0 ≤ _)⟩)
  dsimp only [Pt.U, Pt.locs, Pt.cells, Pt.slots] at X52 l52 y52 z52 st52 hQ52
  subst l52 y52 z52
  obtain ⟨r52, rfl, N52q, e52, hr52⟩ := hQ52
  have N53 := Fr.app N51 N52q
  refine Go.via (S' := T52.setTop (mkF m 89 #[.val (.long q1), .second, .val (.long q2), .second, .val (.int p3), .val (.int (p3 &&& (3 : Int32))), .val (.long bb), .second, .val (.ref b1), .val (.ref b19), .val (.int r50), .unset] [(.int r52)])) (fun _ k => st52.trans k) ?_
  refine Go.via (S' := T52.setTop (mkF m 91 #[.val (.long q1), .second, .val (.long q2), .second, .val (.int p3), .val (.int (p3 &&& (3 : Int32))), .val (.long bb), .second, .val (.ref b1), .val (.ref b19), .val (.int r50), .val (.int r52)] [])) (fun _ k => XS.istore X52.here hx rfl (hb hby at_89) rfl (l' := #[.val (.long q1), .second, .val (.long q2), .second, .val (.int p3), .val (.int (p3 &&& (3 : Int32))), .val (.long bb), .second, .val (.ref b1), .val (.ref b19), .val (.int r50), .val (.int r52)]) rfl k) ?_
  refine Go.via (S' := T52.setTop (mkF m 93 #[.val (.long q1), .second, .val (.long q2), .second, .val (.int p3), .val (.int (p3 &&& (3 : Int32))), .val (.long bb), .second, .val (.ref b1), .val (.ref b19), .val (.int r50), .val (.int r52)] [(.int r50)])) (fun _ k => XS.iload X52.here hx rfl (hb hby at_91) rfl k) ?_
  obtain ⟨_, _, ⟨T54, L54, k54, n54⟩, -, X54, ⟨Lc54, hQ54, l54, y54, z54⟩, st54⟩ := Jvm.LawKit.callS X52 hx (y := (⟨"com/example/tidegraph/tidegraph/graph/UserCompareToPinLaw", "sign", "(I)I"⟩ : MethodName)) hown (mvT hZ (hw _ (List.mem_of_getElem? (i := 23) rfl))) (mvT hZ (hw _ (List.mem_of_getElem? (i := 24) rfl))) (mvT hZ (hw _ (List.mem_of_getElem? (i := 25) rfl))) (mvT hZ (hw _ (List.mem_of_getElem? (i := 26) rfl))) (by decide) (backOf (W := 0) (rm5 l Z a0 hw [] r50 T42.heap n0 z49) hZ (hw _ (List.mem_of_getElem? (i := 26) rfl)) (hw _ (List.mem_of_getElem? (i := 25) rfl)) (by decide) (by decide)) (g := (mkF m 93 #[.val (.long q1), .second, .val (.long q2), .second, .val (.int p3), .val (.int (p3 &&& (3 : Int32))), .val (.long bb), .second, .val (.ref b1), .val (.ref b19), .val (.int r50), .val (.int r52)] [(.int r50)])) rfl (by rw [hml]; rfl) (argsL := [(.int r50)]) (rest := []) (lenOf pd_3 rfl) rfl (by show 2 * 0 + _ ≤ _; exact Nat.le_of_eq rfl) (hb hby at_93) (fun _ _ => ⟨rfl, e52, (by decide : 4 + 0 ≤ _), (by decide : 8 + 0 ≤ _)⟩)
  dsimp only [Pt.U, Pt.locs, Pt.cells, Pt.slots] at X54 l54 y54 z54 st54 hQ54
  subst l54 y54 z54
  obtain ⟨r54, rfl, N54q, e54, hr54⟩ := hQ54
  have N55 := Fr.app N53 N54q
  refine Go.via (S' := T54.setTop (mkF m 96 #[.val (.long q1), .second, .val (.long q2), .second, .val (.int p3), .val (.int (p3 &&& (3 : Int32))), .val (.long bb), .second, .val (.ref b1), .val (.ref b19), .val (.int r50), .val (.int r52)] [(.int r54)])) (fun _ k => st54 _ k) ?_
  refine Go.via (S' := T54.setTop (mkF m 97 #[.val (.long q1), .second, .val (.long q2), .second, .val (.int p3), .val (.int (p3 &&& (3 : Int32))), .val (.long bb), .second, .val (.ref b1), .val (.ref b19), .val (.int r50), .val (.int r52)] [(.long q1), (.int r54)])) (fun _ k => XS.lloadN X54.here hx rfl (hb hby at_96) rfl k) ?_
  refine Go.via (S' := T54.setTop (mkF m 99 #[.val (.long q1), .second, .val (.long q2), .second, .val (.int p3), .val (.int (p3 &&& (3 : Int32))), .val (.long bb), .second, .val (.ref b1), .val (.ref b19), .val (.int r50), .val (.int r52)] [(.long bb), (.long q1), (.int r54)])) (fun _ k => XS.lload X54.here hx rfl (hb hby at_97) rfl k) ?_
  obtain ⟨_, _, ⟨T56, L56, k56, n56⟩, -, X56, ⟨Lc56, hQ56, l56, y56, z56⟩, st56⟩ := Jvm.LawKit.callS X54 hx (y := (⟨"com/example/tidegraph/tidegraph/graph/UserCompareToPinLaw", "expected", "(JJ)I"⟩ : MethodName)) hown (mvT hZ (hw _ (List.mem_of_getElem? (i := 27) rfl))) (mvT hZ (hw _ (List.mem_of_getElem? (i := 28) rfl))) (mvT hZ (hw _ (List.mem_of_getElem? (i := 25) rfl))) (mvT hZ (hw _ (List.mem_of_getElem? (i := 29) rfl))) (by decide) (backOf (W := 1) (rm6 l Z a0 hw [] q1 bb T42.heap n0 z49) hZ (hw _ (List.mem_of_getElem? (i := 29) rfl)) (hw _ (List.mem_of_getElem? (i := 25) rfl)) (by decide) (by decide)) (g := (mkF m 99 #[.val (.long q1), .second, .val (.long q2), .second, .val (.int p3), .val (.int (p3 &&& (3 : Int32))), .val (.long bb), .second, .val (.ref b1), .val (.ref b19), .val (.int r50), .val (.int r52)] [(.long bb), (.long q1), (.int r54)])) rfl (by rw [hml]; rfl) (argsL := [(.long q1), (.long bb)]) (rest := [(.int r54)]) (lenOf pd_0 rfl) rfl (by show 2 * 0 + _ ≤ _; exact Nat.le_of_eq rfl) (hb hby at_99) (fun _ _ => ⟨rfl, e54, (by decide : 4 + 0 ≤ _), (by decide : 8 + 0 ≤ _)⟩)
  dsimp only [Pt.U, Pt.locs, Pt.cells, Pt.slots] at X56 l56 y56 z56 st56 hQ56
  subst l56 y56 z56
  obtain ⟨r56, rfl, N56q, e56, hr56⟩ := hQ56
  have N57 := Fr.app N55 N56q
  refine Go.via (S' := T56.setTop (mkF m 102 #[.val (.long q1), .second, .val (.long q2), .second, .val (.int p3), .val (.int (p3 &&& (3 : Int32))), .val (.long bb), .second, .val (.ref b1), .val (.ref b19), .val (.int r50), .val (.int r52)] [(.int r56), (.int r54)])) (fun _ k => st56 _ k) ?_
  refine Go.via (S' := T56.setTop (mkF m 105 #[.val (.long q1), .second, .val (.long q2), .second, .val (.int p3), .val (.int (p3 &&& (3 : Int32))), .val (.long bb), .second, .val (.ref b1), .val (.ref b19), .val (.int r50), .val (.int r52)] [])) (fun _ k => XS.icmpNo X56.here hx rfl (hb hby at_102) rfl (teq ((own_sg hr50 hr54).trans (own_fun hr50 hr56))).2 k) ?_
  refine Go.via (S' := T56.setTop (mkF m 107 #[.val (.long q1), .second, .val (.long q2), .second, .val (.int p3), .val (.int (p3 &&& (3 : Int32))), .val (.long bb), .second, .val (.ref b1), .val (.ref b19), .val (.int r50), .val (.int r52)] [(.int r52)])) (fun _ k => XS.iload X56.here hx rfl (hb hby at_105) rfl k) ?_
  obtain ⟨_, _, ⟨T58, L58, k58, n58⟩, -, X58, ⟨Lc58, hQ58, l58, y58, z58⟩, st58⟩ := Jvm.LawKit.callS X56 hx (y := (⟨"com/example/tidegraph/tidegraph/graph/UserCompareToPinLaw", "sign", "(I)I"⟩ : MethodName)) hown (mvT hZ (hw _ (List.mem_of_getElem? (i := 23) rfl))) (mvT hZ (hw _ (List.mem_of_getElem? (i := 24) rfl))) (mvT hZ (hw _ (List.mem_of_getElem? (i := 25) rfl))) (mvT hZ (hw _ (List.mem_of_getElem? (i := 26) rfl))) (by decide) (backOf (W := 0) (rm5 l Z a0 hw [] r52 T42.heap n0 z49) hZ (hw _ (List.mem_of_getElem? (i := 26) rfl)) (hw _ (List.mem_of_getElem? (i := 25) rfl)) (by decide) (by decide)) (g := (mkF m 107 #[.val (.long q1), .second, .val (.long q2), .second, .val (.int p3), .val (.int (p3 &&& (3 : Int32))), .val (.long bb), .second, .val (.ref b1), .val (.ref b19), .val (.int r50), .val (.int r52)] [(.int r52)])) rfl (by rw [hml]; rfl) (argsL := [(.int r52)]) (rest := []) (lenOf pd_3 rfl) rfl (by show 2 * 0 + _ ≤ _; exact Nat.le_of_eq rfl) (hb hby at_107) (fun _ _ => ⟨rfl, e56, (by decide : 4 + 0 ≤ _), (by decide : 8 + 0 ≤ _)⟩)
  dsimp only [Pt.U, Pt.locs, Pt.cells, Pt.slots] at X58 l58 y58 z58 st58 hQ58
  subst l58 y58 z58
  obtain ⟨r58, rfl, N58q, e58, hr58⟩ := hQ58
  have N59 := Fr.app N57 N58q
  refine Go.via (S' := T58.setTop (mkF m 110 #[.val (.long q1), .second, .val (.long q2), .second, .val (.int p3), .val (.int (p3 &&& (3 : Int32))), .val (.long bb), .second, .val (.ref b1), .val (.ref b19), .val (.int r50), .val (.int r52)] [(.int r58)])) (fun _ k => st58 _ k) ?_
  refine Go.via (S' := T58.setTop (mkF m 112 #[.val (.long q1), .second, .val (.long q2), .second, .val (.int p3), .val (.int (p3 &&& (3 : Int32))), .val (.long bb), .second, .val (.ref b1), .val (.ref b19), .val (.int r50), .val (.int r52)] [(.long bb), (.int r58)])) (fun _ k => XS.lload X58.here hx rfl (hb hby at_110) rfl k) ?_
  refine Go.via (S' := T58.setTop (mkF m 113 #[.val (.long q1), .second, .val (.long q2), .second, .val (.int p3), .val (.int (p3 &&& (3 : Int32))), .val (.long bb), .second, .val (.ref b1), .val (.ref b19), .val (.int r50), .val (.int r52)] [(.long q1), (.long bb), (.int r58)])) (fun _ k => XS.lloadN X58.here hx rfl (hb hby at_112) rfl k) ?_
  obtain ⟨_, _, ⟨T60, L60, k60, n60⟩, -, X60, ⟨Lc60, hQ60, l60, y60, z60⟩, st60⟩ := Jvm.LawKit.callS X58 hx (y := (⟨"com/example/tidegraph/tidegraph/graph/UserCompareToPinLaw", "expected", "(JJ)I"⟩ : MethodName)) hown (mvT hZ (hw _ (List.mem_of_getElem? (i := 27) rfl))) (mvT hZ (hw _ (List.mem_of_getElem? (i := 28) rfl))) (mvT hZ (hw _ (List.mem_of_getElem? (i := 25) rfl))) (mvT hZ (hw _ (List.mem_of_getElem? (i := 29) rfl))) (by decide) (backOf (W := 1) (rm6 l Z a0 hw [] bb q1 T42.heap n0 z49) hZ (hw _ (List.mem_of_getElem? (i := 29) rfl)) (hw _ (List.mem_of_getElem? (i := 25) rfl)) (by decide) (by decide)) (g := (mkF m 113 #[.val (.long q1), .second, .val (.long q2), .second, .val (.int p3), .val (.int (p3 &&& (3 : Int32))), .val (.long bb), .second, .val (.ref b1), .val (.ref b19), .val (.int r50), .val (.int r52)] [(.long q1), (.long bb), (.int r58)])) rfl (by rw [hml]; rfl) (argsL := [(.long bb), (.long q1)]) (rest := [(.int r58)]) (lenOf pd_0 rfl) rfl (by show 2 * 0 + _ ≤ _; exact Nat.le_of_eq rfl) (hb hby at_113) (fun _ _ => ⟨rfl, e58, (by decide : 4 + 0 ≤ _), (by decide : 8 + 0 ≤ _)⟩)
  dsimp only [Pt.U, Pt.locs, Pt.cells, Pt.slots] at X60 l60 y60 z60 st60 hQ60
  subst l60 y60 z60
  obtain ⟨r60, rfl, N60q, e60, hr60⟩ := hQ60
  have N61 := Fr.app N59 N60q
  refine Go.via (S' := T60.setTop (mkF m 116 #[.val (.long q1), .second, .val (.long q2), .second, .val (.int p3), .val (.int (p3 &&& (3 : Int32))), .val (.long bb), .second, .val (.ref b1), .val (.ref b19), .val (.int r50), .val (.int r52)] [(.int r60), (.int r58)])) (fun _ k => st60 _ k) ?_
  refine Go.via (S' := T60.setTop (mkF m 119 #[.val (.long q1), .second, .val (.long q2), .second, .val (.int p3), .val (.int (p3 &&& (3 : Int32))), .val (.long bb), .second, .val (.ref b1), .val (.ref b19), .val (.int r50), .val (.int r52)] [])) (fun _ k => XS.icmpNo X60.here hx rfl (hb hby at_116) rfl (teq ((own_sg hr52 hr58).trans (own_fun hr52 hr60))).2 k) ?_
  refine Go.via (S' := T60.setTop (mkF m 120 #[.val (.long q1), .second, .val (.long q2), .second, .val (.int p3), .val (.int (p3 &&& (3 : Int32))), .val (.long bb), .second, .val (.ref b1), .val (.ref b19), .val (.int r50), .val (.int r52)] [(.int (1 : Int32))])) (fun _ k => XS.iconst X60.here hx rfl (hb hby at_119) k) ?_
  refine Go.via (S' := T60.setTop (mkF m 124 #[.val (.long q1), .second, .val (.long q2), .second, .val (.int p3), .val (.int (p3 &&& (3 : Int32))), .val (.long bb), .second, .val (.ref b1), .val (.ref b19), .val (.int r50), .val (.int r52)] [(.int (1 : Int32))])) (fun _ k => XS.goto X60.here hx rfl (pc0 := 120) (pc' := 124) rfl (hb hby at_120) (by decide) (by decide) k) ?_
  exact Go.retB X60 hx (BodyLoose.notSynchronized Bd) Bd.returns (hb hby at_124) rfl (by rw [e60]; exact ⟨rfl, N61⟩) (by decide) (by decide)
set_option maxRecDepth 65536 in
set_option maxHeartbeats 40000000 in
theorem comes_1 {Post : Tables → Env → Array Value → State → Outcome → State → Prop} (hpost : ∀ tb e args s v u, (limb_1_1.after args s (.returned v) u = true ∧ limb_1_2.after args s (.returned v) u = true ∧ True) → FrameEnd s (.returned v) u (Jvm.fieldLocs frame_1_writes args s ++ Jvm.arrayLocs frame_1_arrays args s ++ Jvm.staticLocs frame_1_statics s) 16 128 → Post tb e args s (.returned v) u) :
    ArmFor flags0 classFile x code maxLocals ret World_1 tables_1 room_1 Calls_1 rest_1 Pre_1 Post := by
  intro l hfl _ _ p e ha hc hk s m args below hf hA hF happ hP
  obtain ⟨hcalls, hrest, hpre⟩ := hP
  obtain ⟨-, -, -, hnamed, -, -, -, hat⟩ := (Spec.applies_iff hf).mp happ
  obtain ⟨hg, hn⟩ := and_e (Cond.before_iff.mp (show (Jvm.Cond.and given_1 narrow_1).before args s = true from hpre))
  obtain ⟨gg0, hg0⟩ := and_e hg
  obtain ⟨gg1, hg1⟩ := and_e hg0
  obtain ⟨gg2, hg2⟩ := and_e hg1
  obtain ⟨w0, w1, w2, rfl⟩ : ∃ w0 w1 w2 : Value, args = #[w0, w1, w2] := by
    have hs : args.size = 3 := by simpa [Cond.value, given_1] using gg0
    obtain ⟨L⟩ := args
    match L, hs with
    | [w0, w1, w2], _ => exact ⟨w0, w1, w2, rfl⟩
  have hw := fun d (hd : d ∈ tables_1) => atoms_spec (ws := Jvm.Cond.code x code maxLocals ret :: tables_1) hat d (List.mem_cons_of_mem _ hd)
  have hfit : Fit s := fun {y c} hc i hi => by
    obtain ⟨ha, rfl⟩ := Array.getElem?_eq_some_iff.mp hc
    have q := List.all_eq_true.mp ((Array.all_eq_true_iff_forall_mem.mp hF) _ (Array.getElem_mem ha)) i (List.mem_range.mpr hi)
    simpa [Array.getElem?_eq_getElem hi] using q
  obtain ⟨i0, ei0⟩ := isL_v gg1
  obtain rfl : w0 = (.long i0) := Option.some.inj ei0
  obtain ⟨i1, ei1⟩ := isL_v gg2
  obtain rfl : w1 = (.long i1) := Option.some.inj ei1
  obtain ⟨i2, ei2⟩ := is_v hg2
  obtain rfl : w2 = (.int i2) := Option.some.inj ei2
  obtain ⟨n, o, h1, h2, h3, _, L, rfl, ⟨rfl, N⟩, hq⟩ := rm0 l s _ hw tables_1 i0 i1 i2 s.heap s.heap.size (Nat.le_refl _) p e ha hc hk s m _ below hf ((Spec.applies_iff_loose hf).mp happ).1 ⟨rfl, State.Warmed39.refl s, rfl⟩ trivial
  refine ⟨n, _, h1, h2, h3, hpost _ _ _ _ _ _ ⟨Cond.after_iff.mpr rfl, Cond.after_iff.mpr (eq_i res_at (Term.int_eval (1)) rfl), trivial⟩ ⟨hq.1, hq.2.1, (hq.2.2.sift fun y hy => Or.inr (N y hy)).mono (by decide) (by decide)⟩⟩
theorem main_1_1 : Claimed_1_1 := comes_1 fun _ _ _ _ _ _ h hF => ⟨h.1, hF⟩
theorem main_1_2 : Claimed_1_2 := comes_1 fun _ _ _ _ _ _ h hF => ⟨h.2.1, hF⟩
end Jvm.Pilot.@@N@@
namespace Jvm.Pilot.@@N@@
open Jvm Jvm.ClassFile Sem Op Lib Jvm.Free Jvm.Stand Jvm.Pilot.@@N@@.Jvm.D
/-! MADE BY PROGRAM (witnessworld.py) out of the Statement's table words and the real class files: 12 classes; the members and pool entries that the words name. The judged class is class 1, her method 3. -/
namespace start1
open Jvm.ClassFile
def u (s : String) : CpInfo := .utf8 (stringToUtf16 s)
/-- a pool by its gaps: so many unusable entries, then the entry; so many at the end -/
def gap : Nat → List CpInfo → List CpInfo
  | 0, r => r
  | n + 1, r => .unusable :: gap n r
def poolList (es : List (Nat × CpInfo)) (last : Nat) : List CpInfo := es.foldr (fun e r => gap e.1 (e.2 :: r)) (gap last [])
def pool (es : List (Nat × CpInfo)) (last : Nat) : Array CpInfo := ⟨poolList es last⟩
def fileOf (pool : Array CpInfo) (this : Nat) (attrs : Array Attribute := #[]) (ms : Array MethodInfo := #[]) (fl : Nat := 33) (sup : Nat := 0) (ifs : Array Nat := #[]) (fds : Array FieldInfo := #[]) : ClassFile where
  minorVersion := 0
  majorVersion := 65
  constantPool := pool
  accessFlags := fl
  thisClass := this
  superClass := sup
  interfaces := ifs
  fields := fds
  methods := ms
  attributes := attrs
def plain (name : String) (sup : Option ClassId) : Class where
  name := name
  kind := .ordinary
  loader := none
  accessFlags := 33
  super := sup
  interfaces := #[]
  cf := none
  fields := #[]
  methods := #[]
  instanceTypes := #[]
  staticTypes := #[]
  resolved := #[]
  callSites := []
  init := .initialized
  statics := none
  mirror := none

def pool0 : Array CpInfo := pool [(5, u "<init>"), (0, u "()V"), (1, .class_ 10), (1, u "java/lang/Object")] 113

def k0c0 : Code := { maxStack := 0, maxLocals := 1, code := object_method_1_code, exceptionTable := #[], attributes := #[] }
def k0m0 : Method := { name := "<init>", desc := "()V", sig := { parameters := [], returnType := none }, accessFlags := 1, code := some k0c0 }
/-- java/lang/Object -/
def k0 : Class := { plain "java/lang/Object" none with
  accessFlags := 33
  interfaces := #[]
  cf := some (fileOf pool0 8 #[] #[{ accessFlags := 1, nameIndex := 5, descriptorIndex := 6, attributes := #[] }] 33 0 #[] #[])
  fields := #[]
  methods := #[k0m0]
  instanceTypes := #[]
  staticTypes := #[]
  resolved := Array.replicate 124 none
  statics := none }

def pool1 : Array CpInfo := pool [(2, .class_ 4), (1, u "java/lang/Object"), (0, u "<init>"), (0, u "()V"), (0, .class_ 8), (0, u "com/example/tidegraph/tidegraph/graph/User"), (0, .methodref 7 10), (0, .nameAndType 5 11), (0, u "(J[B)V"), (0, .methodref 7 13), (0, .nameAndType 14 15), (0, u "compareTo"), (0, u "(Lcom/example/tidegraph/tidegraph/graph/User;)I"), (0, .methodref 17 18), (0, .class_ 19), (0, .nameAndType 20 21), (0, u "com/example/tidegraph/tidegraph/graph/UserCompareToPinLaw"), (0, u "sign"), (0, u "(I)I"), (0, .methodref 17 23), (0, .nameAndType 24 25), (0, u "expected"), (0, u "(JJ)I"), (3, u "law"), (0, u "(JJI)Z")] 2

def k1m0 : Method := { name := "<init>", desc := "()V", sig := { parameters := [], returnType := none }, accessFlags := 1, code := none }
def k1c1 : Code := { maxStack := 1, maxLocals := 1, code := method_2_code, exceptionTable := #[], attributes := #[] }
def k1m1 : Method := { name := "sign", desc := "(I)I", sig := { parameters := [.int], returnType := some .int }, accessFlags := 10, code := some k1c1 }
def k1c2 : Code := { maxStack := 4, maxLocals := 4, code := method_3_code, exceptionTable := #[], attributes := #[] }
def k1m2 : Method := { name := "expected", desc := "(JJ)I", sig := { parameters := [.long, .long], returnType := some .int }, accessFlags := 10, code := some k1c2 }
def k1c3 : Code := { maxStack := 5, maxLocals := 12, code := code, exceptionTable := #[], attributes := #[] }
def k1m3 : Method := { name := "law", desc := "(JJI)Z", sig := { parameters := [.long, .long, .int], returnType := some .boolean }, accessFlags := 9, code := some k1c3 }
/-- com/example/tidegraph/tidegraph/graph/UserCompareToPinLaw -/
def k1 : Class := { plain "com/example/tidegraph/tidegraph/graph/UserCompareToPinLaw" (some 0) with
  accessFlags := 49
  interfaces := #[]
  cf := some (fileOf pool1 17 #[] #[{ accessFlags := 1, nameIndex := 5, descriptorIndex := 6, attributes := #[] }, { accessFlags := 10, nameIndex := 20, descriptorIndex := 21, attributes := #[] }, { accessFlags := 10, nameIndex := 24, descriptorIndex := 25, attributes := #[] }, { accessFlags := 9, nameIndex := 29, descriptorIndex := 30, attributes := #[] }] 49 2 #[] #[])
  fields := #[]
  methods := #[k1m0, k1m1, k1m2, k1m3]
  instanceTypes := #[]
  staticTypes := #[]
  resolved := Array.replicate 33 none
  statics := none }

def pool2 : Array CpInfo := pool [(1, .class_ 2), (0, u "java/lang/Comparable"), (0, .class_ 4), (0, u "java/lang/Object")] 7

/-- java/lang/Comparable -/
def k2 : Class := { plain "java/lang/Comparable" (some 0) with
  accessFlags := 1537
  interfaces := #[]
  cf := some (fileOf pool2 1 #[] #[] 1537 3 #[] #[])
  fields := #[]
  methods := #[]
  instanceTypes := #[]
  staticTypes := #[]
  resolved := Array.replicate 12 none
  statics := none }

def pool3 : Array CpInfo := pool [(1, .methodref 2 3), (0, .class_ 4), (0, .nameAndType 5 6), (0, u "java/lang/Object"), (0, u "<init>"), (0, u "()V"), (0, .fieldref 8 9), (0, .class_ 10), (0, .nameAndType 11 12), (0, u "com/example/tidegraph/tidegraph/graph/User"), (0, u "id"), (0, u "J"), (0, .fieldref 8 14), (0, .nameAndType 15 16), (0, u "name"), (0, u "[B"), (13, u "friends"), (0, u "Lcom/example/tidegraph/tidegraph/graph/UserSet;"), (5, u "likes"), (0, u "Lcom/example/tidegraph/tidegraph/graph/ElementList;"), (12, .class_ 53), (1, u "java/lang/Long"), (2, .methodref 51 57), (0, .nameAndType 58 59), (0, u "compare"), (0, u "(JJ)I"), (6, u "compareTo"), (0, u "(Lcom/example/tidegraph/tidegraph/graph/User;)I"), (0, .class_ 69), (0, u "java/lang/Comparable"), (2, u "(J[B)V")] 36

def k3c0 : Code := { maxStack := 3, maxLocals := 4, code := prog_15_method_1_code, exceptionTable := #[], attributes := #[] }
def k3m0 : Method := { name := "<init>", desc := "(J[B)V", sig := { parameters := [.long, (.array .byte)], returnType := none }, accessFlags := 0, code := some k3c0 }
def k3c1 : Code := { maxStack := 4, maxLocals := 2, code := prog_15_method_10_code, exceptionTable := #[], attributes := #[] }
def k3m1 : Method := { name := "compareTo", desc := "(Lcom/example/tidegraph/tidegraph/graph/User;)I", sig := { parameters := [(.object "com/example/tidegraph/tidegraph/graph/User")], returnType := some .int }, accessFlags := 1, code := some k3c1 }
/-- com/example/tidegraph/tidegraph/graph/User -/
def k3 : Class := { plain "com/example/tidegraph/tidegraph/graph/User" (some 0) with
  accessFlags := 49
  interfaces := #[2]
  cf := some (fileOf pool3 8 #[] #[{ accessFlags := 0, nameIndex := 5, descriptorIndex := 72, attributes := #[] }, { accessFlags := 1, nameIndex := 66, descriptorIndex := 67, attributes := #[] }] 49 2 #[68] #[{ accessFlags := 18, nameIndex := 11, descriptorIndex := 12, attributes := #[] }, { accessFlags := 18, nameIndex := 15, descriptorIndex := 16, attributes := #[] }, { accessFlags := 2, nameIndex := 30, descriptorIndex := 31, attributes := #[] }, { accessFlags := 2, nameIndex := 37, descriptorIndex := 38, attributes := #[] }])
  fields := #[{ name := "id", type := .long, accessFlags := 18, slot := 0, constantValue := 0 }, { name := "name", type := (.array .byte), accessFlags := 18, slot := 1, constantValue := 0 }, { name := "friends", type := (.object "com/example/tidegraph/tidegraph/graph/UserSet"), accessFlags := 2, slot := 2, constantValue := 0 }, { name := "likes", type := (.object "com/example/tidegraph/tidegraph/graph/ElementList"), accessFlags := 2, slot := 3, constantValue := 0 }]
  methods := #[k3m0, k3m1]
  instanceTypes := #[.long, (.array .byte), (.object "com/example/tidegraph/tidegraph/graph/UserSet"), (.object "com/example/tidegraph/tidegraph/graph/ElementList")]
  staticTypes := #[]
  resolved := Array.replicate 109 none
  statics := none }

def pool4 : Array CpInfo := pool [(1, .class_ 2), (0, u "java/io/Serializable"), (0, .class_ 4), (0, u "java/lang/Object")] 2

/-- java/io/Serializable -/
def k4 : Class := { plain "java/io/Serializable" (some 0) with
  accessFlags := 1537
  interfaces := #[]
  cf := some (fileOf pool4 1 #[] #[] 1537 3 #[] #[])
  fields := #[]
  methods := #[]
  instanceTypes := #[]
  staticTypes := #[]
  resolved := Array.replicate 7 none
  statics := none }

def pool5 : Array CpInfo := pool [(2, .class_ 4), (1, u "java/lang/Object"), (0, u "<init>"), (0, u "()V"), (1, .class_ 10), (1, u "java/lang/Number"), (2, .class_ 14), (0, u "java/io/Serializable"), (0, u "serialVersionUID"), (0, u "J")] 20

def k5m0 : Method := { name := "<init>", desc := "()V", sig := { parameters := [], returnType := none }, accessFlags := 1, code := none }
/-- java/lang/Number -/
def k5 : Class := { plain "java/lang/Number" (some 0) with
  accessFlags := 1057
  interfaces := #[4]
  cf := some (fileOf pool5 8 #[] #[{ accessFlags := 1, nameIndex := 5, descriptorIndex := 6, attributes := #[] }] 1057 2 #[13] #[{ accessFlags := 26, nameIndex := 15, descriptorIndex := 16, attributes := #[] }])
  fields := #[{ name := "serialVersionUID", type := .long, accessFlags := 26, slot := 0, constantValue := 0 }]
  methods := #[k5m0]
  instanceTypes := #[]
  staticTypes := #[.long]
  resolved := Array.replicate 37 none
  statics := none }

def pool6 : Array CpInfo := pool [(1, .class_ 2), (0, u "java/lang/constant/Constable"), (0, .class_ 4), (0, u "java/lang/Object")] 6

/-- java/lang/constant/Constable -/
def k6 : Class := { plain "java/lang/constant/Constable" (some 0) with
  accessFlags := 1537
  interfaces := #[]
  cf := some (fileOf pool6 1 #[] #[] 1537 3 #[] #[])
  fields := #[]
  methods := #[]
  instanceTypes := #[]
  staticTypes := #[]
  resolved := Array.replicate 11 none
  statics := none }

def pool7 : Array CpInfo := pool [(1, .class_ 2), (0, u "java/lang/constant/ConstantDesc"), (0, .class_ 4), (0, u "java/lang/Object")] 32

/-- java/lang/constant/ConstantDesc -/
def k7 : Class := { plain "java/lang/constant/ConstantDesc" (some 0) with
  accessFlags := 1537
  interfaces := #[]
  cf := some (fileOf pool7 1 #[] #[] 1537 3 #[] #[])
  fields := #[]
  methods := #[]
  instanceTypes := #[]
  staticTypes := #[]
  resolved := Array.replicate 37 none
  statics := none }

def pool8 : Array CpInfo := pool [(1, .class_ 2), (0, u "java/lang/Long"), (232, .class_ 237), (1, u "java/lang/Long$LongCache"), (33, .class_ 272), (0, u "java/lang/Number"), (2, u "value"), (0, u "J"), (27, u "compare"), (0, u "(JJ)I"), (55, u "TYPE"), (0, u "Ljava/lang/Class;"), (0, .class_ 364), (0, u "java/lang/Comparable"), (0, .class_ 366), (0, u "java/lang/constant/Constable"), (0, .class_ 368), (0, u "java/lang/constant/ConstantDesc"), (0, u "MIN_VALUE"), (1, u "MAX_VALUE"), (4, u "SIZE"), (0, u "I"), (1, u "BYTES"), (1, u "serialVersionUID")] 142

def k8c0 : Code := { maxStack := 4, maxLocals := 4, code := jdk_35_method_42_code, exceptionTable := #[], attributes := #[] }
def k8m0 : Method := { name := "compare", desc := "(JJ)I", sig := { parameters := [.long, .long], returnType := some .int }, accessFlags := 9, code := some k8c0 }
/-- java/lang/Long -/
def k8 : Class := { plain "java/lang/Long" (some 5) with
  accessFlags := 49
  interfaces := #[2, 6, 7]
  cf := some (fileOf pool8 1 #[.nestMembers #[235]] #[{ accessFlags := 9, nameIndex := 304, descriptorIndex := 305, attributes := #[] }] 49 271 #[363, 365, 367] #[{ accessFlags := 25, nameIndex := 369, descriptorIndex := 276, attributes := #[] }, { accessFlags := 25, nameIndex := 371, descriptorIndex := 276, attributes := #[] }, { accessFlags := 25, nameIndex := 361, descriptorIndex := 362, attributes := #[] }, { accessFlags := 18, nameIndex := 275, descriptorIndex := 276, attributes := #[] }, { accessFlags := 25, nameIndex := 376, descriptorIndex := 377, attributes := #[] }, { accessFlags := 25, nameIndex := 379, descriptorIndex := 377, attributes := #[] }, { accessFlags := 26, nameIndex := 381, descriptorIndex := 276, attributes := #[] }])
  fields := #[{ name := "MIN_VALUE", type := .long, accessFlags := 25, slot := 0, constantValue := 0 }, { name := "MAX_VALUE", type := .long, accessFlags := 25, slot := 1, constantValue := 0 }, { name := "TYPE", type := (.object "java/lang/Class"), accessFlags := 25, slot := 2, constantValue := 0 }, { name := "value", type := .long, accessFlags := 18, slot := 0, constantValue := 0 }, { name := "SIZE", type := .int, accessFlags := 25, slot := 3, constantValue := 0 }, { name := "BYTES", type := .int, accessFlags := 25, slot := 4, constantValue := 0 }, { name := "serialVersionUID", type := .long, accessFlags := 26, slot := 5, constantValue := 0 }]
  methods := #[k8m0]
  instanceTypes := #[.long]
  staticTypes := #[.long, .long, (.object "java/lang/Class"), .int, .int, .long]
  resolved := Array.replicate 524 none
  statics := none }

def pool9 : Array CpInfo := pool [(1, u "java/lang/Cloneable"), (0, .class_ 1), (0, u "java/lang/Object"), (0, .class_ 3)] 3

/-- java/lang/Cloneable -/
def k9 : Class := { plain "java/lang/Cloneable" (some 0) with
  accessFlags := 1537
  interfaces := #[]
  cf := some (fileOf pool9 2 #[] #[] 1537 4 #[] #[])
  fields := #[]
  methods := #[]
  instanceTypes := #[]
  staticTypes := #[]
  resolved := Array.replicate 8 none
  statics := none }

/-- the primitive byte -/
def k10 : Class := { plain "byte" none with kind := .primitive 'B', accessFlags := 0x411 }
/-- [B -/
def k11 : Class := { plain "[B" (some 0) with kind := .array 10 .byte, interfaces := #[9, 4], accessFlags := 1041 }

def heap : Heap := #[]
def classes : Array Class := #[k0, k1, k2, k3, k4, k5, k6, k7, k8, k9, k10, k11]
def interned : List (Array UInt16 × Addr) := []
def slotsUsed : Nat := 0
def theMethod : MethodId := ⟨1, 3⟩
def args0 : Array Value := #[.long 5, .long 7, .int 0]
def aboutOver (below : List Frame) : State where
  vm := { classes := classes, interned := interned.toArray }
  heap := heap
  slotsUsed := slotsUsed
  threads := #[{ frames := .invoking theMethod args0 :: below }]
def below0 : List Frame := [.native { method := ⟨0, 0⟩, args := #[] }]
def about1 : State := aboutOver below0
def p0 : Program := .bare "" "" ""
def e0 : Env := launch0.env 0 0 0
theorem w_frames : about1.frames = Frame.invoking theMethod args0 :: below0 := rfl
set_option maxRecDepth 65536 in
theorem w_args : argsFit about1.vm theMethod args0 = true := by decide +kernel
set_option maxRecDepth 65536 in
theorem w_heap : heapFits about1 = true := by decide +kernel
set_option maxRecDepth 65536 in
theorem w_runnable : about1.curStatus? = some .runnable := by decide +kernel
set_option maxRecDepth 65536 in
theorem w_alone : about1.alone = true := by decide +kernel
set_option maxRecDepth 65536 in
theorem w_named : about1.methodNamed? x = some theMethod := by decide +kernel
set_option maxRecDepth 65536 in
theorem w_hears : about1.hears theMethod below0 = true := by decide +kernel
set_option maxRecDepth 65536 in
theorem w_ripe : about1.ripe theMethod args0 below0 = true := by decide +kernel
theorem w_running : about1.status = .running := rfl
set_option maxRecDepth 65536 in
theorem w_room : about1.hasRoom e0.platform room_1 = true :=
  launch0.hasRoom_least _ room_1 (by decide +kernel) (by decide +kernel) (by decide +kernel) (by decide +kernel) (by decide +kernel) (by decide +kernel)
theorem allAtoms_all (ts : List Jvm.Cond) (a : Array Jvm.Value) (st : Jvm.State) : (allAtoms ts).before a st = ts.all (fun c => c.before a st) := by
  induction ts with
  | nil => rfl
  | cons c t ih =>
    show (Jvm.Cond.and c (allAtoms t)).before a st = _
    rw [Jvm.Cond.before_and, ih, List.all_cons]
def words1 : List Jvm.Cond := Jvm.Cond.code x code maxLocals ret :: tables_1
/-- a 'code' word, met by the world's own term for the bytes: nothing is compared byte by byte -/
theorem code_word {y : MethodName} {bytes : ByteArray} {mx : Nat} {rt : Option FieldType} {a : Array Value} {s : State} {m : MethodId} {meth : Method} {c : Code} (h1 : s.methodNamed? y = some m) (h2 : s.vm.method? m = some meth) (h3 : meth.code = some c) (h4 : c.code = bytes)
    (h5 : (c.maxLocals == mx && c.exceptionTable.isEmpty && decide (c.maxStack ≤ mostOperands) && decide (meth.sig.returnType = rt) && !meth.locks && decide (parseMethodDescriptor y.desc = some meth.sig)) = true) : (Jvm.Cond.code y bytes mx rt).before a s = true := by
  simp only [Bool.and_eq_true, beq_iff_eq, Bool.not_eq_true', decide_eq_true_eq] at h5
  obtain ⟨⟨⟨⟨⟨g1, g2⟩, g3⟩, g4⟩, g5⟩, g6⟩ := h5
  simp [Cond.before, Cond.holds, Cond.value, h1, h2, h3, h4, g1, g2, g3, g4, g5, g6]
def isCode : Jvm.Cond → Bool
  | .code _ _ _ _ => true
  | _ => false
theorem all_split {L : List Jvm.Cond} {P : Jvm.Cond → Bool} (h1 : L.all (fun c => isCode c || P c) = true) (h2 : ∀ c ∈ L.filter isCode, P c = true) : L.all P = true := by
  refine List.all_eq_true.mpr fun c hc => ?_
  have h := List.all_eq_true.mp h1 c hc
  rcases Bool.eq_false_or_eq_true (isCode c) with hi | hi
  · exact h2 c (List.mem_filter.mpr ⟨hc, hi⟩)
  · simpa [hi] using h
set_option maxRecDepth 65536 in
theorem w_c0 : (Jvm.Cond.code x code maxLocals ret).before args0 about1 = true := code_word (m := ⟨1, 3⟩) (meth := k1m3) (c := k1c3) (by decide +kernel) rfl rfl rfl (by decide +kernel)
set_option maxRecDepth 65536 in
theorem w_c1 : (Jvm.Cond.code ({ cls := "com/example/tidegraph/tidegraph/graph/User", name := "<init>", desc := "(J[B)V" } : Jvm.MethodName) prog_15_method_1_code (4 : Nat) (Option.none : Option Jvm.ClassFile.FieldType)).before args0 about1 = true := code_word (m := ⟨3, 0⟩) (meth := k3m0) (c := k3c0) (by decide +kernel) rfl rfl rfl (by decide +kernel)
set_option maxRecDepth 65536 in
theorem w_c2 : (Jvm.Cond.code ({ cls := "java/lang/Object", name := "<init>", desc := "()V" } : Jvm.MethodName) object_method_1_code (1 : Nat) (Option.none : Option Jvm.ClassFile.FieldType)).before args0 about1 = true := code_word (m := ⟨0, 0⟩) (meth := k0m0) (c := k0c0) (by decide +kernel) rfl rfl rfl (by decide +kernel)
set_option maxRecDepth 65536 in
theorem w_c3 : (Jvm.Cond.code ({ cls := "com/example/tidegraph/tidegraph/graph/User", name := "compareTo", desc := "(Lcom/example/tidegraph/tidegraph/graph/User;)I" } : Jvm.MethodName) prog_15_method_10_code (2 : Nat) (Option.some Jvm.ClassFile.FieldType.int)).before args0 about1 = true := code_word (m := ⟨3, 1⟩) (meth := k3m1) (c := k3c1) (by decide +kernel) rfl rfl rfl (by decide +kernel)
set_option maxRecDepth 65536 in
theorem w_c4 : (Jvm.Cond.code ({ cls := "java/lang/Long", name := "compare", desc := "(JJ)I" } : Jvm.MethodName) jdk_35_method_42_code (4 : Nat) (Option.some Jvm.ClassFile.FieldType.int)).before args0 about1 = true := code_word (m := ⟨8, 0⟩) (meth := k8m0) (c := k8c0) (by decide +kernel) rfl rfl rfl (by decide +kernel)
set_option maxRecDepth 65536 in
theorem w_c5 : (Jvm.Cond.code ({ cls := "com/example/tidegraph/tidegraph/graph/UserCompareToPinLaw", name := "sign", desc := "(I)I" } : Jvm.MethodName) method_2_code (1 : Nat) (Option.some Jvm.ClassFile.FieldType.int)).before args0 about1 = true := code_word (m := ⟨1, 1⟩) (meth := k1m1) (c := k1c1) (by decide +kernel) rfl rfl rfl (by decide +kernel)
set_option maxRecDepth 65536 in
theorem w_c6 : (Jvm.Cond.code ({ cls := "com/example/tidegraph/tidegraph/graph/UserCompareToPinLaw", name := "expected", desc := "(JJ)I" } : Jvm.MethodName) method_3_code (4 : Nat) (Option.some Jvm.ClassFile.FieldType.int)).before args0 about1 = true := code_word (m := ⟨1, 2⟩) (meth := k1m2) (c := k1c2) (by decide +kernel) rfl rfl rfl (by decide +kernel)
def codes1 : List Jvm.Cond := [Jvm.Cond.code x code maxLocals ret, Jvm.Cond.code ({ cls := "com/example/tidegraph/tidegraph/graph/User", name := "<init>", desc := "(J[B)V" } : Jvm.MethodName) prog_15_method_1_code (4 : Nat) (Option.none : Option Jvm.ClassFile.FieldType), Jvm.Cond.code ({ cls := "java/lang/Object", name := "<init>", desc := "()V" } : Jvm.MethodName) object_method_1_code (1 : Nat) (Option.none : Option Jvm.ClassFile.FieldType), Jvm.Cond.code ({ cls := "com/example/tidegraph/tidegraph/graph/User", name := "compareTo", desc := "(Lcom/example/tidegraph/tidegraph/graph/User;)I" } : Jvm.MethodName) prog_15_method_10_code (2 : Nat) (Option.some Jvm.ClassFile.FieldType.int), Jvm.Cond.code ({ cls := "java/lang/Long", name := "compare", desc := "(JJ)I" } : Jvm.MethodName) jdk_35_method_42_code (4 : Nat) (Option.some Jvm.ClassFile.FieldType.int), Jvm.Cond.code ({ cls := "com/example/tidegraph/tidegraph/graph/UserCompareToPinLaw", name := "sign", desc := "(I)I" } : Jvm.MethodName) method_2_code (1 : Nat) (Option.some Jvm.ClassFile.FieldType.int), Jvm.Cond.code ({ cls := "com/example/tidegraph/tidegraph/graph/UserCompareToPinLaw", name := "expected", desc := "(JJ)I" } : Jvm.MethodName) method_3_code (4 : Nat) (Option.some Jvm.ClassFile.FieldType.int)]
set_option maxRecDepth 65536 in
theorem codes_eq : words1.filter isCode = codes1 := rfl
theorem w_codes : ∀ c ∈ words1.filter isCode, c.before args0 about1 = true := by
  rw [codes_eq]
  intro c hc
  simp only [codes1, List.mem_cons, List.not_mem_nil, or_false] at hc
  rcases hc with rfl | rfl | rfl | rfl | rfl | rfl | rfl
  · exact w_c0
  · exact w_c1
  · exact w_c2
  · exact w_c3
  · exact w_c4
  · exact w_c5
  · exact w_c6
set_option maxRecDepth 65536 in
theorem w_t1 : (words1.take 24).all (fun c => isCode c || c.before args0 about1) = true := by decide +kernel
set_option maxRecDepth 65536 in
theorem w_t2 : (words1.drop 24).all (fun c => isCode c || c.before args0 about1) = true := by decide +kernel
theorem w_tables : (allAtoms (Jvm.Cond.code x code maxLocals ret :: tables_1)).before args0 about1 = true := by
  rw [allAtoms_all]
  show words1.all (fun c => c.before args0 about1) = true
  refine all_split ?_ w_codes
  rw [← List.take_append_drop 24 words1, List.all_append, w_t1, w_t2]
  rfl
set_option maxRecDepth 65536 in
theorem w_case : (Jvm.Cond.and given_1 narrow_1).before args0 about1 = true := by decide +kernel
theorem w_applies : (headSpec (Jvm.Cond.code x code maxLocals ret :: tables_1) room_1).applies x e0.platform about1 = true :=
  (Spec.applies_iff w_frames).mpr ⟨w_running, w_runnable, w_alone, w_named, w_hears, w_ripe, w_room, w_tables⟩
theorem atStart : AtStart classFile x code maxLocals ret World_1 tables_1 room_1 Calls_1 rest_1 Pre_1 launch0 p0 e0 about1 theMethod args0 below0 :=
  ⟨lists_1, trivial, launch0.admits_env _ _ _, launch0.least_env, fairChoices_fair.cas, fairChoices_fair.clock, w_frames, w_args, w_heap, w_applies, trivial, trivial, w_case⟩
end start1
theorem witness_1 : WitnessClaimed_1 := ⟨start1.p0, start1.e0, start1.about1, start1.theMethod, start1.args0, start1.below0, start1.atStart⟩
end Jvm.Pilot.@@N@@
