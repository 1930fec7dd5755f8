import JvmDerived
import JvmDerived.Pilot.@@N@@Statement
import JvmDerived.Pilot.@@N@@Code
set_option linter.unusedVariables false
set_option linter.unusedSimpArgs false
namespace Jvm.Pilot.@@N@@
open Jvm Jvm.ClassFile Sem Op Lib Jvm.Free Jvm.Stand Jvm.LawKit Jvm.RoadKit Bundle Jvm.Pilot.@@N@@.Jvm.D
def Go (p : Program) (e : Env) (below : List Frame) (s : State) (Q : Option Value → Heap → List Loc → Prop) (rc rs : Nat) (S : State) : Prop :=
  ∃ s₂ o, Steps p.tables e below S s₂ ∧ s₂.status = .running ∧ Ended s₂ below o ∧ ∃ v L, o = .returned v ∧ Q v s₂.heap L ∧ FrameEnd s o s₂ L rc rs
section OwnGo
variable {p : Program} {l : Launch} {e : Env} {R : Room} {s : State} {m : MethodId} {args : Array Value} {below : List Frame} {meth : Method} {c : Code} {T : State} {locs : List Loc} {cells slots : Nat} {Q : Option Value → Heap → List Loc → Prop} {rc rs : Nat}
theorem Go.via {S S' : State} (h : ∀ t, Steps p.tables e below S' t → Steps p.tables e below S t) (g : Go p e below s Q rc rs S') : Go p e below s Q rc rs S :=
  let ⟨s₂, o, a, b⟩ := g; ⟨s₂, o, h _ a, b⟩
theorem Go.retI (X : Stand p l e R s m args below meth c T locs cells slots) (hx : p.tables.exec = Jvm.exec) (hlk : meth.locks = false) {pc : Nat} {Ls : Array Slot} {z : Int32} {rest : List Value} (hret : meth.sig.returnType = some .int) (hd : decode c.code pc = .ok (.ireturn, 1))
    (hq : Q (some (.int z)) T.heap locs) (hc : cells ≤ rc) (hs : slots ≤ rs) : Go p e below s Q rc rs (T.setTop (mkF m pc Ls (.int z :: rest))) := by
  obtain ⟨fs, hr, hrun, hended, hW, hsame⟩ := X.leave (v := some (.int z)) (fun h => by rw [hret] at h; cases h)
  exact ⟨_, _, retOut X hx hret rfl (Or.inl ⟨rfl, Or.inl rfl, _, rfl⟩) hd hr, hrun, hended, _, _, rfl, hq, ⟨_, rfl⟩, hW, hsame.mono hc hs⟩
theorem Go.retB (X : Stand p l e R s m args below meth c T locs cells slots) (hx : p.tables.exec = Jvm.exec) (hlk : meth.locks = false) {pc : Nat} {Ls : Array Slot} {z : Int32} {rest : List Value} (hret : meth.sig.returnType = some .boolean) (hd : decode c.code pc = .ok (.ireturn, 1)) (hz : narrow .boolean (.int z) = .int z)
    (hq : Q (some (.int z)) T.heap locs) (hc : cells ≤ rc) (hs : slots ≤ rs) : Go p e below s Q rc rs (T.setTop (mkF m pc Ls (.int z :: rest))) := by
  obtain ⟨fs, hr, hrun, hended, hW, hsame⟩ := X.leave (v := some (.int z)) (fun h => by rw [hret] at h; cases h)
  exact ⟨_, _, retOut X hx hret hz (Or.inl ⟨rfl, Or.inr (Or.inl rfl), _, rfl⟩) hd hr, hrun, hended, _, _, rfl, hq, ⟨_, rfl⟩, hW, hsame.mono hc hs⟩
theorem Go.retC (X : Stand p l e R s m args below meth c T locs cells slots) (hx : p.tables.exec = Jvm.exec) (hlk : meth.locks = false) {pc : Nat} {Ls : Array Slot} {z : Int32} {rest : List Value} (hret : meth.sig.returnType = some .char) (hd : decode c.code pc = .ok (.ireturn, 1)) (hz : narrow .char (.int z) = .int z)
    (hq : Q (some (.int z)) T.heap locs) (hc : cells ≤ rc) (hs : slots ≤ rs) : Go p e below s Q rc rs (T.setTop (mkF m pc Ls (.int z :: rest))) := by
  obtain ⟨fs, hr, hrun, hended, hW, hsame⟩ := X.leave (v := some (.int z)) (fun h => by rw [hret] at h; cases h)
  exact ⟨_, _, retOut X hx hret hz (Or.inl ⟨rfl, Or.inr (Or.inr (Or.inr (Or.inl rfl))), _, rfl⟩) hd hr, hrun, hended, _, _, rfl, hq, ⟨_, rfl⟩, hW, hsame.mono hc hs⟩
theorem Go.retJ (X : Stand p l e R s m args below meth c T locs cells slots) (hx : p.tables.exec = Jvm.exec) (hlk : meth.locks = false) {pc : Nat} {Ls : Array Slot} {z : Int64} {rest : List Value} (hret : meth.sig.returnType = some .long) (hd : decode c.code pc = .ok (.lreturn, 1))
    (hq : Q (some (.long z)) T.heap locs) (hc : cells ≤ rc) (hs : slots ≤ rs) : Go p e below s Q rc rs (T.setTop (mkF m pc Ls (.long z :: rest))) := by
  obtain ⟨fs, hr, hrun, hended, hW, hsame⟩ := X.leave (v := some (.long z)) (fun h => by rw [hret] at h; cases h)
  exact ⟨_, _, retOut X hx hret rfl (Or.inr (Or.inl ⟨rfl, rfl, _, rfl⟩)) hd hr, hrun, hended, _, _, rfl, hq, ⟨_, rfl⟩, hW, hsame.mono hc hs⟩
theorem Go.retA (X : Stand p l e R s m args below meth c T locs cells slots) (hx : p.tables.exec = Jvm.exec) (hlk : meth.locks = false) {pc : Nat} {Ls : Array Slot} {z : Value} {rest : List Value} {t : FieldType} (hret : meth.sig.returnType = some t) (ht : t.isReference = true) (hz : z.isRef = true) (hn : narrow t z = z) (hd : decode c.code pc = .ok (.areturn, 1))
    (hq : Q (some z) T.heap locs) (hc : cells ≤ rc) (hs : slots ≤ rs) : Go p e below s Q rc rs (T.setTop (mkF m pc Ls (z :: rest))) := by
  obtain ⟨fs, hr, hrun, hended, hW, hsame⟩ := X.leave (v := some z) (fun h => by rw [hret] at h; cases h)
  exact ⟨_, _, retOut X hx hret hn (Or.inr (Or.inr (Or.inr (Or.inr ⟨rfl, ht, hz⟩)))) hd hr, hrun, hended, _, _, rfl, hq, ⟨_, rfl⟩, hW, hsame.mono hc hs⟩
theorem Go.retV (X : Stand p l e R s m args below meth c T locs cells slots) (hx : p.tables.exec = Jvm.exec) (hlk : meth.locks = false) {pc : Nat} {Ls : Array Slot} (hret : meth.sig.returnType = none) (hd : decode c.code pc = .ok (.return_, 1))
    (hq : Q none T.heap locs) (hc : cells ≤ rc) (hs : slots ≤ rs) : Go p e below s Q rc rs (T.setTop (mkF m pc Ls [])) := by
  obtain ⟨fs, hr, hrun, hended, hW, hsame⟩ := X.leave (v := none) (fun _ => rfl)
  exact ⟨_, _, X.returnOut hx hret hd hr, hrun, hended, _, _, rfl, hq, ⟨_, rfl⟩, hW, hsame.mono hc hs⟩
def GoW (p : Program) (e : Env) (below : List Frame) (s : State) (Q : Option Value → Heap → List Loc → Prop) (rc rs : Nat) (S : State) : Prop :=
  ∃ s₂ o, Steps p.tables e below S s₂ ∧ s₂.status = .running ∧ Ended s₂ below o ∧ ∃ v L, o = .returned v ∧ Q v s₂.heap L ∧ ReturnedEndW s o s₂ L rc rs
theorem GoW.via {S S' : State} (h : ∀ t, Steps p.tables e below S' t → Steps p.tables e below S t) (g : GoW p e below s Q rc rs S') : GoW p e below s Q rc rs S :=
  let ⟨s₂, o, a, b⟩ := g; ⟨s₂, o, h _ a, b⟩
theorem GoW.retB {vm₁ : Vm} (X : Stand p l e R (s.setVm vm₁) m args below meth c T locs cells slots) (hx : p.tables.exec = Jvm.exec) (hlk : meth.locks = false) {n : Nat} (hS : s.Since vm₁ n) (hn : n ≤ T.heap.size) {pc : Nat} {Ls : Array Slot} {z : Int32} {rest : List Value} (hret : meth.sig.returnType = some .boolean) (hd : decode c.code pc = .ok (.ireturn, 1)) (hz : narrow .boolean (.int z) = .int z)
    (hq : Q (some (.int z)) T.heap locs) (hc : cells ≤ rc) (hs : slots ≤ rs) : GoW p e below s Q rc rs (T.setTop (mkF m pc Ls (.int z :: rest))) := by
  obtain ⟨fs, hr, hrun, hended, hE⟩ := X.leaveW hS hn (v := some (.int z)) (fun h => by rw [hret] at h; cases h)
  exact ⟨_, _, retOut X hx hret hz (Or.inl ⟨rfl, Or.inr (Or.inl rfl), _, rfl⟩) hd hr, hrun, hended, _, _, rfl, hq, hE.1, hE.2.1, hE.2.2.1, hE.2.2.2.mono hc hs⟩
end OwnGo
theorem own_sel {s : State} {args : Array Value} {y : MethodName} {n : Nat} (wi : (Jvm.Cond.instantiable y.cls n).before args s = true) (hpriv : s.PrivateAt y) (hinst : (Jvm.Cond.instanceMethod y).before args s = true) (hy : y.cls ≠ "java/lang/invoke/MethodHandle" ∧ y.cls ≠ "java/lang/invoke/VarHandle") : (Jvm.Cond.selects y.cls y y).before args s = true := by
  obtain ⟨c, k, h1, h2, h3, h4, -⟩ := Cond.instantiable_spec wi
  have h5 : k.isInterface = false := by
    cases hq : k.isInterface
    · rfl
    · rw [hq] at h4; cases h4
  exact Jvm.Stand.selects_self_of_private h1 h2 h5 hpriv hinst hy
theorem own_lc1 {x y : Int64} (h : x < y) : lcmpW x y < 0 := (lw_lt x y).mpr h
theorem own_lc2 {x y : Int64} (h : ¬ x < y) : ¬ lcmpW x y < 0 := fun q => h ((lw_lt x y).mp q)
theorem own_lc3 {x y : Int64} (h : y < x) : 0 < lcmpW x y := (lw_gt x y).mpr h
theorem own_lc4 {x y : Int64} (h : ¬ y < x) : ¬ 0 < lcmpW x y := fun q => h ((lw_gt x y).mp q)
theorem own_lc5 {x y : Int64} (h : x = y) : lcmpW x y = 0 := (lw_eq x y).mpr h
theorem own_lc6 {x y : Int64} (h : ¬ x = y) : ¬ lcmpW x y = 0 := fun q => h ((lw_eq x y).mp q)
theorem own_root {Z : State} {a0 : Array Value} {O K : String} {n : Nat} (w : (Jvm.Cond.noSuperclass O).before a0 Z = true) (wk : (Jvm.Cond.instantiable K n).before a0 Z = true) (hn : O ≠ K) : NS Z O K := by
  obtain ⟨c, k, h1, h2, h3, -, -⟩ := Cond.noSuperclass_spec w
  obtain ⟨t, kt, g1, -⟩ := Cond.instantiable_spec wk
  have ne := ids_ne h1 g1 hn
  refine ⟨c, t, h1, g1, fun fuel => ?_⟩
  cases fuel with
  | zero => rfl
  | succ f => simp [Vm.isSubclassAux, ne, h2, h3]
theorem own_no {Z : State} {a0 : Array Value} {C S K : String} {n : Nat} (w : (Jvm.Cond.superclass C S).before a0 Z = true) (wk : (Jvm.Cond.instantiable K n).before a0 Z = true) (nn : NS Z C K) (hn : C ≠ K) : ∃ c t, Z.vm.findClass C = some c ∧ Z.vm.findClass K = some t ∧ Z.vm.assignable c t = false := by
  obtain ⟨c, t, h0, g0, n3⟩ := nn
  obtain ⟨p, k, kp, h1, h2, h3, h4, h5, -, h7⟩ := Cond.superclass_spec h0 w
  obtain ⟨t', kt, g1, g2, g5, g7, -⟩ := Cond.instantiable_spec wk
  cases g0.symm.trans g1
  have ne := ids_ne h0 g0 hn
  have g8 : kt.isInterface = false := by
    cases hq : kt.isInterface
    · rfl
    · rw [hq] at g7; cases g7
  refine ⟨c, t, h0, g0, ?_⟩
  show Z.vm.assignableAux (255 + 1) c t = false
  simp [Vm.assignableAux, ne, h2, g2, h5, g5, g8, Vm.isSubclass, n3]
theorem own_len {s : State} {args : Array Value} {t : Jvm.Term} {a : Addr} {c : Cell} {z : Int32} (ht : t.eval args s none [] s = some (.ref a)) (hc : s.arrayAt? a = some c) (hl : (Jvm.Term.length t).eval args s none [] s = some (.int z)) : c.slots.size < 2 ^ 31 ∧ c.slots.size.toInt32 = z := by
  simpa [Term.eval, ht, hc] using hl
theorem own_ci {q : Int64} (h1 : ¬ q < (-128 : Int64)) (h2 : ¬ (127 : Int64) < q) : (q.toInt32 + (128 : Int32)).toInt = q.toInt + 128 := by
  rw [Int64.lt_iff_toInt_lt] at h1 h2
  have e1 : (-128 : Int64).toInt = -128 := by decide
  have e2 : (127 : Int64).toInt = 127 := by decide
  rw [e1] at h1
  rw [e2] at h2
  have a := c_l2i q
  have b := rng32 q.toInt32
  have c := c_iadd q.toInt32 128
  have d := rng32 (q.toInt32 + 128)
  have e3 : (128 : Int32).toInt = 128 := by decide
  rw [e3] at c
  omega
theorem d6_0 : decode jdk_18_method_1_code 0 = .ok (.aload_n 0, 1) := by decide +kernel
theorem d6_1 : decode jdk_18_method_1_code 1 = .ok (.invokespecial 1, 3) := by decide +kernel
theorem d6_4 : decode jdk_18_method_1_code 4 = .ok (.return_, 1) := by decide +kernel
theorem pn_0 : plainName "java/lang/Number" = true := by first | (simp [plainName, overriddenIn]; done) | decide +kernel
theorem ef_6 (m : MethodId) (x0 : Addr) : entryFrame m #[(.ref x0)] 1 = mkF m 0 #[.val (.ref x0)] [] := by first | (simp [entryFrame, mkF, argsToLocals, Value.category]; done) | rfl
def Q6 (Z : State) (a1 : Addr) (h0 : Heap) (n0 : Nat) (v : Option Value) (h : Heap) (L : List Loc) : Prop := v = none ∧ Fr n0 L ∧ h = h0
set_option maxRecDepth 65536 in
set_option maxHeartbeats 40000000 in
theorem rm6 (l : Launch) (Z : State) (a0 : Array Value) (hw : ∀ d ∈ tables_1, d.before a0 Z = true) (ws : List Jvm.Cond) (a1 : Addr) (h0 : Heap) (n0 : Nat) (Z0 : n0 ≤ h0.size) :
    MetFree l (⟨"java/lang/Number", "<init>", "()V"⟩ : MethodName) (head1 (Jvm.Cond.code (⟨"java/lang/Number", "<init>", "()V"⟩ : MethodName) jdk_18_method_1_code 1 none :: ws) ({ frames := 1, cells := 0, slots := 0, locals := 12 } : Room)) (fun a U => a = #[(.ref a1)] ∧ Z.Warmed39 U.vm ∧ U.heap = h0) (fun _ _ _ _ _ => True) (fun _ U o U' => ∃ v L, o = .returned v ∧ Q6 Z a1 h0 n0 v U'.heap L ∧ FrameEnd U o U' L ({ frames := 1, cells := 0, slots := 0, locals := 12 } : Room).cells ({ frames := 1, cells := 0, slots := 0, locals := 12 } : Room).slots) := by
  refine MetFree.of_bodySF (plainFor_of_name pn_0) hisR ?_
  intro p e s m args below meth c s₁ Bd hml0 hP hK
  obtain ⟨rfl, hZ, hh⟩ := hP
  have hx := Bd.exec
  have hby := Bd.bytes
  have hml : c.maxLocals = 1 := hml0
  have hown : s.vm.findClass "java/lang/Number" = some m.cls := findClass_of_methodNamed Bd.named
  have hnm := (name_of_methodNamed Bd.named Bd.method).1
  have X0 : Stand p l e ({ frames := 1, cells := 0, slots := 0, locals := 12 } : Room) s m #[(.ref a1)] below meth c s₁ [] 0 0 := Stand.of_body Bd
  have e0 : s₁.heap = h0 := by rw [← hh, Bd.state]; rfl
  have N0 := Fr.nil n0
  show Go p e below s (Q6 Z a1 h0 n0) ({ frames := 1, cells := 0, slots := 0, locals := 12 } : Room).cells ({ frames := 1, cells := 0, slots := 0, locals := 12 } : Room).slots _
  refine Go.via (S' := s₁.setTop (mkF m 0 #[.val (.ref a1)] [])) (fun t k => castTop (ef_6 m a1) k) ?_
  refine Go.via (S' := s₁.setTop (mkF m 1 #[.val (.ref a1)] [(.ref a1)])) (fun _ k => XS.aloadN X0.here hx rfl (hb hby d6_0) rfl rfl k) ?_
  obtain ⟨T1, X1, e1, st1⟩ := initO X0 hx hZ hown (hw _ (List.mem_of_getElem? (i := 45) rfl)) (hw _ (List.mem_of_getElem? (i := 8) rfl)) (hw _ (List.mem_of_getElem? (i := 9) rfl)) e0 (g := (mkF m 1 #[.val (.ref a1)] [(.ref a1)])) rfl (by rw [hml]; rfl) rfl (hb hby d6_1) (by decide) (W := 0) (by show 2 * 0 + _ ≤ _; exact Nat.le_of_eq rfl) (by decide)
  refine Go.via (S' := T1.setTop (mkF m 4 #[.val (.ref a1)] [])) (fun _ k => st1 _ k) ?_
  exact Go.retV X1 hx (BodyLoose.notSynchronized Bd) Bd.returns (hb hby d6_4) (by rw [e1]; exact ⟨rfl, N0, rfl⟩) (by decide) (by decide)
theorem d5_0 : decode jdk_35_method_26_code 0 = .ok (.aload_n 0, 1) := by decide +kernel
theorem d5_1 : decode jdk_35_method_26_code 1 = .ok (.invokespecial 270, 3) := by decide +kernel
theorem pd_0 : parseMethodDescriptor "()V" = some ⟨[], none⟩ := by decide +kernel
theorem d5_4 : decode jdk_35_method_26_code 4 = .ok (.aload_n 0, 1) := by decide +kernel
theorem d5_5 : decode jdk_35_method_26_code 5 = .ok (.lload_n 1, 1) := by decide +kernel
theorem d5_6 : decode jdk_35_method_26_code 6 = .ok (.putfield 273, 3) := by decide +kernel
theorem d5_9 : decode jdk_35_method_26_code 9 = .ok (.return_, 1) := by decide +kernel
theorem pn_1 : plainName "java/lang/Long" = true := by first | (simp [plainName, overriddenIn]; done) | decide +kernel
theorem ef_5 (m : MethodId) (x0 : Addr) (x1 : Int64) : entryFrame m #[(.ref x0), (.long x1)] 3 = mkF m 0 #[.val (.ref x0), .val (.long x1), .second] [] := by first | (simp [entryFrame, mkF, argsToLocals, Value.category]; done) | rfl
def Q5 (Z : State) (a1 : Addr) (q2 : Int64) (h0 : Heap) (n0 : Nat) (v : Option Value) (h : Heap) (L : List Loc) : Prop := v = none ∧ Fr n0 L ∧ Keep h0 h [a1]
set_option maxRecDepth 65536 in
set_option maxHeartbeats 40000000 in
theorem rm5 (l : Launch) (Z : State) (a0 : Array Value) (hw : ∀ d ∈ tables_1, d.before a0 Z = true) (ws : List Jvm.Cond) (a1 : Addr) (q2 : Int64) (h0 : Heap) (n0 : Nat) (Z0 : n0 ≤ h0.size) (E1 : Exa Z h0 a1 "java/lang/Long") (F1 : Fld Z h0 a1 "java/lang/Long" "value" "J" (.long (0 : Int64))) (g1 : n0 ≤ a1) :
    MetFree l (⟨"java/lang/Long", "<init>", "(J)V"⟩ : MethodName) (head1 (Jvm.Cond.code (⟨"java/lang/Long", "<init>", "(J)V"⟩ : MethodName) jdk_35_method_26_code 3 none :: ws) ({ frames := 2, cells := 0, slots := 0, locals := 24 } : Room)) (fun a U => a = #[(.ref a1), (.long q2)] ∧ Z.Warmed39 U.vm ∧ U.heap = h0) (fun _ _ _ _ _ => True) (fun _ U o U' => ∃ v L, o = .returned v ∧ Q5 Z a1 q2 h0 n0 v U'.heap L ∧ FrameEnd U o U' L ({ frames := 2, cells := 0, slots := 0, locals := 24 } : Room).cells ({ frames := 2, cells := 0, slots := 0, locals := 24 } : Room).slots) := by
  refine MetFree.of_bodySF (plainFor_of_name pn_1) hisR ?_
  intro p e s m args below meth c s₁ Bd hml0 hP hK
  obtain ⟨rfl, hZ, hh⟩ := hP
  have hx := Bd.exec
  have hby := Bd.bytes
  have hml : c.maxLocals = 3 := hml0
  have hown : s.vm.findClass "java/lang/Long" = some m.cls := findClass_of_methodNamed Bd.named
  have hnm := (name_of_methodNamed Bd.named Bd.method).1
  have X0 : Stand p l e ({ frames := 2, cells := 0, slots := 0, locals := 24 } : Room) s m #[(.ref a1), (.long q2)] below meth c s₁ [] 0 0 := Stand.of_body Bd
  have e0 : s₁.heap = h0 := by rw [← hh, Bd.state]; rfl
  have N0 := Fr.nil n0
  show Go p e below s (Q5 Z a1 q2 h0 n0) ({ frames := 2, cells := 0, slots := 0, locals := 24 } : Room).cells ({ frames := 2, cells := 0, slots := 0, locals := 24 } : Room).slots _
  refine Go.via (S' := s₁.setTop (mkF m 0 #[.val (.ref a1), .val (.long q2), .second] [])) (fun t k => castTop (ef_5 m a1 q2) k) ?_
  refine Go.via (S' := s₁.setTop (mkF m 1 #[.val (.ref a1), .val (.long q2), .second] [(.ref a1)])) (fun _ k => XS.aloadN X0.here hx rfl (hb hby d5_0) rfl rfl k) ?_
  obtain ⟨_, _, ⟨T1, L1, k1, n1⟩, -, X1, ⟨Lc1, hQ1, l1, y1, z1⟩, st1⟩ := X0.specialBack hx (y := (⟨"java/lang/Number", "<init>", "()V"⟩ : MethodName)) rfl hown (mvT hZ (hw _ (List.mem_of_getElem? (i := 39) rfl))) (mvT hZ (hw _ (List.mem_of_getElem? (i := 40) rfl))) (mvT hZ (hw _ (List.mem_of_getElem? (i := 44) rfl))) (by decide) (backOf (W := 0) (rm6 l Z a0 hw [] a1 h0 n0 Z0) hZ (hw _ (List.mem_of_getElem? (i := 44) rfl)) (hw _ (List.mem_of_getElem? (i := 43) rfl)) (by decide) (by decide)) (g := (mkF m 1 #[.val (.ref a1), .val (.long q2), .second] [(.ref a1)])) rfl (by rw [hml]; rfl) (Steps.refl _) (a := a1) (argsL := []) (rest := []) (lenOf pd_0 rfl) rfl (by show 2 * 0 + _ ≤ _; exact Nat.le_of_eq rfl) (hb hby d5_1) (fun _ _ => ⟨rfl, e0, (by decide : 0 + 0 ≤ _), (by decide : 0 + 0 ≤ _)⟩)
  dsimp only [Pt.U, Pt.locs, Pt.cells, Pt.slots] at X1 l1 y1 z1 st1 hQ1
  subst l1 y1 z1
  obtain ⟨rfl, N1q, e1⟩ := hQ1
  have N2 := Fr.app N0 N1q
  refine Go.via (S' := T1.setTop (mkF m 4 #[.val (.ref a1), .val (.long q2), .second] [])) (fun _ k => st1.trans k) ?_
  refine Go.via (S' := T1.setTop (mkF m 5 #[.val (.ref a1), .val (.long q2), .second] [(.ref a1)])) (fun _ k => XS.aloadN X1.here hx rfl (hb hby d5_4) rfl rfl k) ?_
  refine Go.via (S' := T1.setTop (mkF m 6 #[.val (.ref a1), .val (.long q2), .second] [(.long q2), (.ref a1)])) (fun _ k => XS.lloadN X1.here hx rfl (hb hby d5_5) rfl k) ?_
  obtain ⟨T3, h3, X3, e3, W3, st3⟩ := putF X1 hx hZ hown (host := "") (Or.inl (hw _ (List.mem_of_getElem? (i := 46) rfl))) Via.refl e1 F1 E1 (Or.inr ⟨(hw _ (List.mem_of_getElem? (i := 47) rfl)), rfl, hnm⟩) (hw _ (List.mem_of_getElem? (i := 34) rfl)) (ty := .long) (by decide) rfl rfl (g := (mkF m 6 #[.val (.ref a1), .val (.long q2), .second] [(.long q2), (.ref a1)])) rfl rfl (hb hby d5_6)
  have N4 := Fr.snoc X3 N2 g1
  have f5 := E1.wr W3
  have f6 := F1.same W3
  have z7 := Nat.le_trans Z0 (Keep.of_wr W3).1
  have K8 := (Keep.refl h0 [a1]).wr W3 (Or.inl (List.mem_of_getElem? (i := 0) rfl))
  refine Go.via (S' := T3.setTop (mkF m 9 #[.val (.ref a1), .val (.long q2), .second] [])) (fun _ k => st3 _ k) ?_
  exact Go.retV X3 hx (BodyLoose.notSynchronized Bd) Bd.returns (hb hby d5_9) (by rw [e3]; exact ⟨rfl, N4, K8⟩) (by decide) (by decide)
theorem d4_0 : decode jdk_35_method_24_code 0 = .ok (.sipush 128, 3) := by decide +kernel
theorem d4_3 : decode jdk_35_method_24_code 3 = .ok (.istore_n 2, 1) := by decide +kernel
theorem d4_4 : decode jdk_35_method_24_code 4 = .ok (.lload_n 0, 1) := by decide +kernel
theorem d4_5 : decode jdk_35_method_24_code 5 = .ok (.ldc2_w 230, 3) := by decide +kernel
theorem d4_8 : decode jdk_35_method_24_code 8 = .ok (.lcmp, 1) := by decide +kernel
theorem d4_9 : decode jdk_35_method_24_code 9 = .ok (.ifCond .lt 22, 3) := by decide +kernel
theorem d4_31 : decode jdk_35_method_24_code 31 = .ok (.new 1, 3) := by decide +kernel
theorem d4_34 : decode jdk_35_method_24_code 34 = .ok (.dup, 1) := by decide +kernel
theorem d4_35 : decode jdk_35_method_24_code 35 = .ok (.lload_n 0, 1) := by decide +kernel
theorem d4_36 : decode jdk_35_method_24_code 36 = .ok (.invokespecial 240, 3) := by decide +kernel
theorem pd_1 : parseMethodDescriptor "(J)V" = some ⟨[.long], none⟩ := by decide +kernel
theorem d4_39 : decode jdk_35_method_24_code 39 = .ok (.areturn, 1) := by decide +kernel
theorem d4_12 : decode jdk_35_method_24_code 12 = .ok (.lload_n 0, 1) := by decide +kernel
theorem d4_13 : decode jdk_35_method_24_code 13 = .ok (.ldc2_w 232, 3) := by decide +kernel
theorem d4_16 : decode jdk_35_method_24_code 16 = .ok (.lcmp, 1) := by decide +kernel
theorem d4_17 : decode jdk_35_method_24_code 17 = .ok (.ifCond .gt 14, 3) := by decide +kernel
theorem d4_20 : decode jdk_35_method_24_code 20 = .ok (.getstatic 234, 3) := by decide +kernel
theorem d4_23 : decode jdk_35_method_24_code 23 = .ok (.lload_n 0, 1) := by decide +kernel
theorem d4_24 : decode jdk_35_method_24_code 24 = .ok (.l2i, 1) := by decide +kernel
theorem d4_25 : decode jdk_35_method_24_code 25 = .ok (.sipush 128, 3) := by decide +kernel
theorem d4_28 : decode jdk_35_method_24_code 28 = .ok (.iadd, 1) := by decide +kernel
theorem d4_29 : decode jdk_35_method_24_code 29 = .ok (.aaload, 1) := by decide +kernel
theorem d4_30 : decode jdk_35_method_24_code 30 = .ok (.areturn, 1) := by decide +kernel
theorem ef_4 (m : MethodId) (x0 : Int64) : entryFrame m #[(.long x0)] 3 = mkF m 0 #[.val (.long x0), .second, .unset] [] := by first | (simp [entryFrame, mkF, argsToLocals, Value.category]; done) | rfl
def Q4 (Z : State) (q1 : Int64) (ca : Addr) (cc : Cell) (h0 : Heap) (n0 : Nat) (v : Option Value) (h : Heap) (L : List Loc) : Prop := ∃ r : Addr, v = some (.ref r) ∧ Fr n0 L ∧ Keep h0 h [] ∧ Exa Z h r "java/lang/Long"
set_option maxRecDepth 65536 in
set_option maxHeartbeats 40000000 in
theorem rm4 (l : Launch) (Z : State) (a0 : Array Value) (hw : ∀ d ∈ tables_1, d.before a0 Z = true) (ws : List Jvm.Cond) (q1 : Int64) (ca : Addr) (cc : Cell) (h0 : Heap) (n0 : Nat) (Z0 : n0 ≤ h0.size) (X00 : Old Z n0 h0) (Sc : Sta Z Z.heap "java/lang/Long$LongCache" "cache" "[Ljava/lang/Long;" (.ref ca)) (Bc : Bxs Z ca cc "java/lang/Long" "J" 256 (fun j => .long (j - 128).toInt64)) :
    MetFree l (⟨"java/lang/Long", "valueOf", "(J)Ljava/lang/Long;"⟩ : MethodName) (head1 (Jvm.Cond.code (⟨"java/lang/Long", "valueOf", "(J)Ljava/lang/Long;"⟩ : MethodName) jdk_35_method_24_code 3 (some (.object "java/lang/Long")) :: ws) ({ frames := 3, cells := 1, slots := 1, locals := 39 } : Room)) (fun a U => a = #[(.long q1)] ∧ Z.Warmed39 U.vm ∧ U.heap = h0) (fun _ _ _ _ _ => True) (fun _ U o U' => ∃ v L, o = .returned v ∧ Q4 Z q1 ca cc h0 n0 v U'.heap L ∧ FrameEnd U o U' L ({ frames := 3, cells := 1, slots := 1, locals := 39 } : Room).cells ({ frames := 3, cells := 1, slots := 1, locals := 39 } : Room).slots) := by
  refine MetFree.of_bodySF (plainFor_of_name pn_1) hisR ?_
  intro p e s m args below meth c s₁ Bd hml0 hP hK
  obtain ⟨rfl, hZ, hh⟩ := hP
  have hx := Bd.exec
  have hby := Bd.bytes
  have hml : c.maxLocals = 3 := hml0
  have hown : s.vm.findClass "java/lang/Long" = some m.cls := findClass_of_methodNamed Bd.named
  have hnm := (name_of_methodNamed Bd.named Bd.method).1
  have X0 : Stand p l e ({ frames := 3, cells := 1, slots := 1, locals := 39 } : Room) s m #[(.long q1)] below meth c s₁ [] 0 0 := Stand.of_body Bd
  have e0 : s₁.heap = h0 := by rw [← hh, Bd.state]; rfl
  have N0 := Fr.nil n0
  show Go p e below s (Q4 Z q1 ca cc h0 n0) ({ frames := 3, cells := 1, slots := 1, locals := 39 } : Room).cells ({ frames := 3, cells := 1, slots := 1, locals := 39 } : Room).slots _
  refine Go.via (S' := s₁.setTop (mkF m 0 #[.val (.long q1), .second, .unset] [])) (fun t k => castTop (ef_4 m q1) k) ?_
  refine Go.via (S' := s₁.setTop (mkF m 3 #[.val (.long q1), .second, .unset] [(.int (128 : Int32))])) (fun _ k => XS.sipush X0.here hx rfl (hb hby d4_0) k) ?_
  refine Go.via (S' := s₁.setTop (mkF m 4 #[.val (.long q1), .second, .val (.int (128 : Int32))] [])) (fun _ k => XS.istoreN X0.here hx rfl (hb hby d4_3) rfl (l' := #[.val (.long q1), .second, .val (.int (128 : Int32))]) rfl k) ?_
  refine Go.via (S' := s₁.setTop (mkF m 5 #[.val (.long q1), .second, .val (.int (128 : Int32))] [(.long q1)])) (fun _ k => XS.lloadN X0.here hx rfl (hb hby d4_4) rfl k) ?_
  refine Go.via (S' := s₁.setTop (mkF m 8 #[.val (.long q1), .second, .val (.int (128 : Int32))] [(.long (-128 : Int64)), (.long q1)])) (fun _ k => X0.ldc2Long hx hown (mvT hZ (hw _ (List.mem_of_getElem? (i := 26) rfl))) (g := (mkF m 5 #[.val (.long q1), .second, .val (.int (128 : Int32))] [(.long q1)])) rfl (hb hby d4_5) _ k) ?_
  refine Go.via (S' := s₁.setTop (mkF m 9 #[.val (.long q1), .second, .val (.int (128 : Int32))] [(.int (lcmpW q1 (-128 : Int64)))])) (fun _ k => XS.lcmp X0.here hx rfl (hb hby d4_8) rfl k) ?_
  rcases Decidable.em (q1 < (-128 : Int64)) with hc9 | hc9
  · refine Go.via (S' := s₁.setTop (mkF m 31 #[.val (.long q1), .second, .val (.int (128 : Int32))] [])) (fun _ k => XS.ifYes X0.here hx rfl (pc0 := 9) (pc' := 31) rfl (hb hby d4_9) rfl ((if0 _ _).trans (tlt (own_lc1 hc9)).1) (by decide) (by decide) k) ?_
    obtain ⟨T1, h1, X1, e1, E1, A1, D1, -, st1⟩ := newO X0 hx hZ hown (hw _ (List.mem_of_getElem? (i := 33) rfl)) (hw _ (List.mem_of_getElem? (i := 34) rfl)) (hw _ (List.mem_of_getElem? (i := 24) rfl)) e0 (g := (mkF m 31 #[.val (.long q1), .second, .val (.int (128 : Int32))] [])) rfl (hb hby d4_31) (by decide) (by decide)
    obtain ⟨b1, g1⟩ : ∃ z, z = h0.size := ⟨_, rfl⟩
    rw [← g1] at A1 D1 st1
    have g2 : n0 ≤ b1 := Nat.le_trans Z0 (Nat.le_of_eq g1.symm)
    have g3 : h0.size ≤ b1 := Nat.le_trans (Keep.refl h0 []).1 (Nat.le_of_eq g1.symm)
    have f4 := X00.ext E1
    have z5 := Nat.le_trans Z0 E1.1
    have K6 := (Keep.refl h0 []).ext E1
    have F7 : Fld Z h1 b1 "java/lang/Long" "value" "J" (.long (0 : Int64)) := D1 (Or.inr (hw _ (List.mem_of_getElem? (i := 47) rfl))) (ty := .long) (by decide)
    refine Go.via (S' := T1.setTop (mkF m 34 #[.val (.long q1), .second, .val (.int (128 : Int32))] [(.ref b1)])) (fun _ k => st1 _ k) ?_
    refine Go.via (S' := T1.setTop (mkF m 35 #[.val (.long q1), .second, .val (.int (128 : Int32))] [(.ref b1), (.ref b1)])) (fun _ k => XS.dup X1.here hx rfl (hb hby d4_34) rfl rfl k) ?_
    refine Go.via (S' := T1.setTop (mkF m 36 #[.val (.long q1), .second, .val (.int (128 : Int32))] [(.long q1), (.ref b1), (.ref b1)])) (fun _ k => XS.lloadN X1.here hx rfl (hb hby d4_35) rfl k) ?_
    obtain ⟨_, _, ⟨T8, L8, k8, n8⟩, -, X8, ⟨Lc8, hQ8, l8, y8, z8⟩, st8⟩ := X1.specialBack hx (y := (⟨"java/lang/Long", "<init>", "(J)V"⟩ : MethodName)) rfl hown (mvT hZ (hw _ (List.mem_of_getElem? (i := 35) rfl))) (mvT hZ (hw _ (List.mem_of_getElem? (i := 36) rfl))) (mvT hZ (hw _ (List.mem_of_getElem? (i := 38) rfl))) (by decide) (backOf (W := 1) (rm5 l Z a0 hw [] b1 q1 h1 n0 z5 A1 F7 g2) hZ (hw _ (List.mem_of_getElem? (i := 38) rfl)) (hw _ (List.mem_of_getElem? (i := 24) rfl)) (by decide) (by decide)) (g := (mkF m 36 #[.val (.long q1), .second, .val (.int (128 : Int32))] [(.long q1), (.ref b1), (.ref b1)])) rfl (by rw [hml]; rfl) (Steps.refl _) (a := b1) (argsL := [(.long q1)]) (rest := [(.ref b1)]) (lenOf pd_1 rfl) rfl (by show 2 * 0 + _ ≤ _; exact Nat.le_of_eq rfl) (hb hby d4_36) (fun _ _ => ⟨rfl, e1, (by decide : 1 + 0 ≤ _), (by decide : 1 + 0 ≤ _)⟩)
    dsimp only [Pt.U, Pt.locs, Pt.cells, Pt.slots] at X8 l8 y8 z8 st8 hQ8
    subst l8 y8 z8
    obtain ⟨rfl, N8q, K8⟩ := hQ8
    have N9 := Fr.app N0 N8q
    have f10 := f4.keep K8 (allS g2 all0)
    have f11 := A1.keep K8
    have z12 := Nat.le_trans z5 K8.1
    have K13 := K6.trans K8 (allS (Or.inr g3) all0)
    refine Go.via (S' := T8.setTop (mkF m 39 #[.val (.long q1), .second, .val (.int (128 : Int32))] [(.ref b1)])) (fun _ k => st8.trans k) ?_
    exact Go.retA X8 hx (BodyLoose.notSynchronized Bd) Bd.returns rfl rfl rfl (hb hby d4_39) ⟨_, rfl, N9, K13, f11⟩ (by decide) (by decide)
  · refine Go.via (S' := s₁.setTop (mkF m 12 #[.val (.long q1), .second, .val (.int (128 : Int32))] [])) (fun _ k => XS.ifNo X0.here hx rfl (hb hby d4_9) rfl ((if0 _ _).trans (flt (own_lc2 hc9)).1) k) ?_
    refine Go.via (S' := s₁.setTop (mkF m 13 #[.val (.long q1), .second, .val (.int (128 : Int32))] [(.long q1)])) (fun _ k => XS.lloadN X0.here hx rfl (hb hby d4_12) rfl k) ?_
    refine Go.via (S' := s₁.setTop (mkF m 16 #[.val (.long q1), .second, .val (.int (128 : Int32))] [(.long (127 : Int64)), (.long q1)])) (fun _ k => X0.ldc2Long hx hown (mvT hZ (hw _ (List.mem_of_getElem? (i := 27) rfl))) (g := (mkF m 13 #[.val (.long q1), .second, .val (.int (128 : Int32))] [(.long q1)])) rfl (hb hby d4_13) _ k) ?_
    refine Go.via (S' := s₁.setTop (mkF m 17 #[.val (.long q1), .second, .val (.int (128 : Int32))] [(.int (lcmpW q1 (127 : Int64)))])) (fun _ k => XS.lcmp X0.here hx rfl (hb hby d4_16) rfl k) ?_
    rcases Decidable.em ((127 : Int64) < q1) with hc17 | hc17
    · refine Go.via (S' := s₁.setTop (mkF m 31 #[.val (.long q1), .second, .val (.int (128 : Int32))] [])) (fun _ k => XS.ifYes X0.here hx rfl (pc0 := 17) (pc' := 31) rfl (hb hby d4_17) rfl ((if0 _ _).trans (tlt (own_lc3 hc17)).2.2.1) (by decide) (by decide) k) ?_
      obtain ⟨T14, h14, X14, e14, E14, A14, D14, -, st14⟩ := newO X0 hx hZ hown (hw _ (List.mem_of_getElem? (i := 33) rfl)) (hw _ (List.mem_of_getElem? (i := 34) rfl)) (hw _ (List.mem_of_getElem? (i := 24) rfl)) e0 (g := (mkF m 31 #[.val (.long q1), .second, .val (.int (128 : Int32))] [])) rfl (hb hby d4_31) (by decide) (by decide)
      obtain ⟨b14, g14⟩ : ∃ z, z = h0.size := ⟨_, rfl⟩
      rw [← g14] at A14 D14 st14
      have g15 : n0 ≤ b14 := Nat.le_trans Z0 (Nat.le_of_eq g14.symm)
      have g16 : h0.size ≤ b14 := Nat.le_trans (Keep.refl h0 []).1 (Nat.le_of_eq g14.symm)
      have f17 := X00.ext E14
      have z18 := Nat.le_trans Z0 E14.1
      have K19 := (Keep.refl h0 []).ext E14
      have F20 : Fld Z h14 b14 "java/lang/Long" "value" "J" (.long (0 : Int64)) := D14 (Or.inr (hw _ (List.mem_of_getElem? (i := 47) rfl))) (ty := .long) (by decide)
      refine Go.via (S' := T14.setTop (mkF m 34 #[.val (.long q1), .second, .val (.int (128 : Int32))] [(.ref b14)])) (fun _ k => st14 _ k) ?_
      refine Go.via (S' := T14.setTop (mkF m 35 #[.val (.long q1), .second, .val (.int (128 : Int32))] [(.ref b14), (.ref b14)])) (fun _ k => XS.dup X14.here hx rfl (hb hby d4_34) rfl rfl k) ?_
      refine Go.via (S' := T14.setTop (mkF m 36 #[.val (.long q1), .second, .val (.int (128 : Int32))] [(.long q1), (.ref b14), (.ref b14)])) (fun _ k => XS.lloadN X14.here hx rfl (hb hby d4_35) rfl k) ?_
      obtain ⟨_, _, ⟨T21, L21, k21, n21⟩, -, X21, ⟨Lc21, hQ21, l21, y21, z21⟩, st21⟩ := X14.specialBack hx (y := (⟨"java/lang/Long", "<init>", "(J)V"⟩ : MethodName)) rfl hown (mvT hZ (hw _ (List.mem_of_getElem? (i := 35) rfl))) (mvT hZ (hw _ (List.mem_of_getElem? (i := 36) rfl))) (mvT hZ (hw _ (List.mem_of_getElem? (i := 38) rfl))) (by decide) (backOf (W := 1) (rm5 l Z a0 hw [] b14 q1 h14 n0 z18 A14 F20 g15) hZ (hw _ (List.mem_of_getElem? (i := 38) rfl)) (hw _ (List.mem_of_getElem? (i := 24) rfl)) (by decide) (by decide)) (g := (mkF m 36 #[.val (.long q1), .second, .val (.int (128 : Int32))] [(.long q1), (.ref b14), (.ref b14)])) rfl (by rw [hml]; rfl) (Steps.refl _) (a := b14) (argsL := [(.long q1)]) (rest := [(.ref b14)]) (lenOf pd_1 rfl) rfl (by show 2 * 0 + _ ≤ _; exact Nat.le_of_eq rfl) (hb hby d4_36) (fun _ _ => ⟨rfl, e14, (by decide : 1 + 0 ≤ _), (by decide : 1 + 0 ≤ _)⟩)
      dsimp only [Pt.U, Pt.locs, Pt.cells, Pt.slots] at X21 l21 y21 z21 st21 hQ21
      subst l21 y21 z21
      obtain ⟨rfl, N21q, K21⟩ := hQ21
      have N22 := Fr.app N0 N21q
      have f23 := f17.keep K21 (allS g15 all0)
      have f24 := A14.keep K21
      have z25 := Nat.le_trans z18 K21.1
      have K26 := K19.trans K21 (allS (Or.inr g16) all0)
      refine Go.via (S' := T21.setTop (mkF m 39 #[.val (.long q1), .second, .val (.int (128 : Int32))] [(.ref b14)])) (fun _ k => st21.trans k) ?_
      exact Go.retA X21 hx (BodyLoose.notSynchronized Bd) Bd.returns rfl rfl rfl (hb hby d4_39) ⟨_, rfl, N22, K26, f24⟩ (by decide) (by decide)
    · refine Go.via (S' := s₁.setTop (mkF m 20 #[.val (.long q1), .second, .val (.int (128 : Int32))] [])) (fun _ k => XS.ifNo X0.here hx rfl (hb hby d4_17) rfl ((if0 _ _).trans (flt (own_lc4 hc17)).2.2.1) k) ?_
      have Sc0 := Sc.ext X00.2
      obtain ⟨T27, X27, e27, st27⟩ := getS2 X0 hx hZ hown (host := "") (Or.inl (hw _ (List.mem_of_getElem? (i := 28) rfl))) Via.refl e0 Sc0 (g := (mkF m 20 #[.val (.long q1), .second, .val (.int (128 : Int32))] [])) rfl (hb hby d4_20)
      refine Go.via (S' := T27.setTop (mkF m 23 #[.val (.long q1), .second, .val (.int (128 : Int32))] [(.ref ca)])) (fun _ k => st27 _ k) ?_
      refine Go.via (S' := T27.setTop (mkF m 24 #[.val (.long q1), .second, .val (.int (128 : Int32))] [(.long q1), (.ref ca)])) (fun _ k => XS.lloadN X27.here hx rfl (hb hby d4_23) rfl k) ?_
      refine Go.via (S' := T27.setTop (mkF m 25 #[.val (.long q1), .second, .val (.int (128 : Int32))] [(.int (q1.toInt32)), (.ref ca)])) (fun _ k => XS.l2i X27.here hx rfl (hb hby d4_24) rfl k) ?_
      refine Go.via (S' := T27.setTop (mkF m 28 #[.val (.long q1), .second, .val (.int (128 : Int32))] [(.int (128 : Int32)), (.int (q1.toInt32)), (.ref ca)])) (fun _ k => XS.sipush X27.here hx rfl (hb hby d4_25) k) ?_
      refine Go.via (S' := T27.setTop (mkF m 29 #[.val (.long q1), .second, .val (.int (128 : Int32))] [(.int ((q1.toInt32) + (128 : Int32))), (.ref ca)])) (fun _ k => XS.iadd X27.here hx rfl (hb hby d4_28) rfl k) ?_
      have hj := own_ci hc9 hc17
      obtain ⟨Ac, Sz, Nz⟩ := Bc.ext X00.2
      have in29 : ¬ (((q1.toInt32) + (128 : Int32)) < 0 ∨ cc.slots.size ≤ ((q1.toInt32) + (128 : Int32)).toNatClampNeg) := by
        refine inb_of Sz ⟨?_, ?_⟩
        · rw [Int32.lt_iff_toInt_lt, hj]
          rw [Int64.lt_iff_toInt_lt] at hc9
          have e1 : (-128 : Int64).toInt = -128 := by decide
          have e2 : (0 : Int32).toInt = 0 := by decide
          omega
        · rw [Int32.lt_iff_toInt_lt, hj]
          rw [Int64.lt_iff_toInt_lt] at hc17
          have e1 : (127 : Int64).toInt = 127 := by decide
          have e2 : (256 : Int32).toInt = 256 := by decide
          omega
      obtain ⟨r, at29, Er, -⟩ := Bc.2.2.2 _ in29
      have Er0 := Er.ext X00.2
      refine Go.via (S' := T27.setTop (mkF m 30 #[.val (.long q1), .second, .val (.int (128 : Int32))] [(.ref r)])) (fun _ k => X27.aaload hx (j := ((q1.toInt32) + (128 : Int32))) (v := (.ref r)) (by rw [e27]; exact Ac.1) (State.isArrayOf_alike hZ.alike Ac.2.1) rfl Ac.2.2 in29 at29 (g := (mkF m 29 #[.val (.long q1), .second, .val (.int (128 : Int32))] [(.int ((q1.toInt32) + (128 : Int32))), (.ref ca)])) rfl rfl (hb hby d4_29) _ k) ?_
      exact Go.retA X27 hx (BodyLoose.notSynchronized Bd) Bd.returns rfl rfl rfl (hb hby d4_30) (by rw [e27]; exact ⟨_, rfl, N0, Keep.refl _ _, Er0⟩) (by decide) (by decide)
theorem d1_0 : decode prog_15_method_1_code 0 = .ok (.aload_n 0, 1) := by decide +kernel
theorem d1_1 : decode prog_15_method_1_code 1 = .ok (.invokespecial 1, 3) := by decide +kernel
theorem d1_4 : decode prog_15_method_1_code 4 = .ok (.aload_n 0, 1) := by decide +kernel
theorem d1_5 : decode prog_15_method_1_code 5 = .ok (.lload_n 1, 1) := by decide +kernel
theorem d1_6 : decode prog_15_method_1_code 6 = .ok (.putfield 7, 3) := by decide +kernel
theorem d1_9 : decode prog_15_method_1_code 9 = .ok (.aload_n 0, 1) := by decide +kernel
theorem d1_10 : decode prog_15_method_1_code 10 = .ok (.aload_n 3, 1) := by decide +kernel
theorem d1_11 : decode prog_15_method_1_code 11 = .ok (.putfield 13, 3) := by decide +kernel
theorem d1_14 : decode prog_15_method_1_code 14 = .ok (.return_, 1) := by decide +kernel
theorem pn_2 : plainName "com/example/tidegraph/tidegraph/graph/User" = true := by first | (simp [plainName, overriddenIn]; done) | decide +kernel
theorem ef_1 (m : MethodId) (x0 : Addr) (x1 : Int64) (x2 : Addr) : entryFrame m #[(.ref x0), (.long x1), (.ref x2)] 4 = mkF m 0 #[.val (.ref x0), .val (.long x1), .second, .val (.ref x2)] [] := by first | (simp [entryFrame, mkF, argsToLocals, Value.category]; done) | rfl
def Q1 (Z : State) (a1 : Addr) (q2 : Int64) (a3 : Addr) (h0 : Heap) (n0 : Nat) (v : Option Value) (h : Heap) (L : List Loc) : Prop := v = none ∧ Fr n0 L ∧ Keep h0 h [a1] ∧ Fld Z h a1 "com/example/tidegraph/tidegraph/graph/User" "id" "J" (.long q2)
set_option maxRecDepth 65536 in
set_option maxHeartbeats 40000000 in
theorem rm1 (l : Launch) (Z : State) (a0 : Array Value) (hw : ∀ d ∈ tables_1, d.before a0 Z = true) (ws : List Jvm.Cond) (a1 : Addr) (q2 : Int64) (a3 : Addr) (h0 : Heap) (n0 : Nat) (Z0 : n0 ≤ h0.size) (E1 : Exa Z h0 a1 "com/example/tidegraph/tidegraph/graph/User") (F1 : Fld Z h0 a1 "com/example/tidegraph/tidegraph/graph/User" "id" "J" (.long (0 : Int64))) (F2 : Fld Z h0 a1 "com/example/tidegraph/tidegraph/graph/User" "name" "[B" .null) (g1 : n0 ≤ a1) :
    MetFree l (⟨"com/example/tidegraph/tidegraph/graph/User", "<init>", "(J[B)V"⟩ : MethodName) (head1 (Jvm.Cond.code (⟨"com/example/tidegraph/tidegraph/graph/User", "<init>", "(J[B)V"⟩ : MethodName) prog_15_method_1_code 4 none :: ws) ({ frames := 1, cells := 0, slots := 0, locals := 12 } : Room)) (fun a U => a = #[(.ref a1), (.long q2), (.ref a3)] ∧ Z.Warmed39 U.vm ∧ U.heap = h0) (fun _ _ _ _ _ => True) (fun _ U o U' => ∃ v L, o = .returned v ∧ Q1 Z a1 q2 a3 h0 n0 v U'.heap L ∧ FrameEnd U o U' L ({ frames := 1, cells := 0, slots := 0, locals := 12 } : Room).cells ({ frames := 1, cells := 0, slots := 0, locals := 12 } : Room).slots) := by
  refine MetFree.of_bodySF (plainFor_of_name pn_2) hisR ?_
  intro p e s m args below meth c s₁ Bd hml0 hP hK
  obtain ⟨rfl, hZ, hh⟩ := hP
  have hx := Bd.exec
  have hby := Bd.bytes
  have hml : c.maxLocals = 4 := hml0
  have hown : s.vm.findClass "com/example/tidegraph/tidegraph/graph/User" = some m.cls := findClass_of_methodNamed Bd.named
  have hnm := (name_of_methodNamed Bd.named Bd.method).1
  have X0 : Stand p l e ({ frames := 1, cells := 0, slots := 0, locals := 12 } : Room) s m #[(.ref a1), (.long q2), (.ref a3)] below meth c s₁ [] 0 0 := Stand.of_body Bd
  have e0 : s₁.heap = h0 := by rw [← hh, Bd.state]; rfl
  have N0 := Fr.nil n0
  show Go p e below s (Q1 Z a1 q2 a3 h0 n0) ({ frames := 1, cells := 0, slots := 0, locals := 12 } : Room).cells ({ frames := 1, cells := 0, slots := 0, locals := 12 } : Room).slots _
  refine Go.via (S' := s₁.setTop (mkF m 0 #[.val (.ref a1), .val (.long q2), .second, .val (.ref a3)] [])) (fun t k => castTop (ef_1 m a1 q2 a3) k) ?_
  refine Go.via (S' := s₁.setTop (mkF m 1 #[.val (.ref a1), .val (.long q2), .second, .val (.ref a3)] [(.ref a1)])) (fun _ k => XS.aloadN X0.here hx rfl (hb hby d1_0) rfl rfl k) ?_
  obtain ⟨T1, X1, e1, st1⟩ := initO X0 hx hZ hown (hw _ (List.mem_of_getElem? (i := 7) rfl)) (hw _ (List.mem_of_getElem? (i := 8) rfl)) (hw _ (List.mem_of_getElem? (i := 9) rfl)) e0 (g := (mkF m 1 #[.val (.ref a1), .val (.long q2), .second, .val (.ref a3)] [(.ref a1)])) rfl (by rw [hml]; rfl) rfl (hb hby d1_1) (by decide) (W := 0) (by show 2 * 0 + _ ≤ _; exact Nat.le_of_eq rfl) (by decide)
  refine Go.via (S' := T1.setTop (mkF m 4 #[.val (.ref a1), .val (.long q2), .second, .val (.ref a3)] [])) (fun _ k => st1 _ k) ?_
  refine Go.via (S' := T1.setTop (mkF m 5 #[.val (.ref a1), .val (.long q2), .second, .val (.ref a3)] [(.ref a1)])) (fun _ k => XS.aloadN X1.here hx rfl (hb hby d1_4) rfl rfl k) ?_
  refine Go.via (S' := T1.setTop (mkF m 6 #[.val (.ref a1), .val (.long q2), .second, .val (.ref a3)] [(.long q2), (.ref a1)])) (fun _ k => XS.lloadN X1.here hx rfl (hb hby d1_5) rfl k) ?_
  obtain ⟨T2, h2, X2, e2, W2, st2⟩ := putF X1 hx hZ hown (host := "") (Or.inl (hw _ (List.mem_of_getElem? (i := 10) rfl))) Via.refl e1 F1 E1 (Or.inr ⟨(hw _ (List.mem_of_getElem? (i := 11) rfl)), rfl, hnm⟩) (hw _ (List.mem_of_getElem? (i := 1) rfl)) (ty := .long) (by decide) rfl rfl (g := (mkF m 6 #[.val (.ref a1), .val (.long q2), .second, .val (.ref a3)] [(.long q2), (.ref a1)])) rfl rfl (hb hby d1_6)
  have N3 := Fr.snoc X2 N0 g1
  have f4 := E1.wr W2
  have f5 := F1.same W2
  have f6 := F2.other W2 (Or.inr (slot_ne (Or.inr (hw _ (List.mem_of_getElem? (i := 13) rfl))) (Or.inr (hw _ (List.mem_of_getElem? (i := 11) rfl))) (by decide) (t := (.array .byte)) (t' := .long) (by decide) (by decide)))
  have z7 := Nat.le_trans Z0 (Keep.of_wr W2).1
  have K8 := (Keep.refl h0 [a1]).wr W2 (Or.inl (List.mem_of_getElem? (i := 0) rfl))
  refine Go.via (S' := T2.setTop (mkF m 9 #[.val (.ref a1), .val (.long q2), .second, .val (.ref a3)] [])) (fun _ k => st2 _ k) ?_
  refine Go.via (S' := T2.setTop (mkF m 10 #[.val (.ref a1), .val (.long q2), .second, .val (.ref a3)] [(.ref a1)])) (fun _ k => XS.aloadN X2.here hx rfl (hb hby d1_9) rfl rfl k) ?_
  refine Go.via (S' := T2.setTop (mkF m 11 #[.val (.ref a1), .val (.long q2), .second, .val (.ref a3)] [(.ref a3), (.ref a1)])) (fun _ k => XS.aloadN X2.here hx rfl (hb hby d1_10) rfl rfl k) ?_
  obtain ⟨T9, h9, X9, e9, W9, st9⟩ := putF X2 hx hZ hown (host := "") (Or.inl (hw _ (List.mem_of_getElem? (i := 12) rfl))) Via.refl e2 f6 f4 (Or.inr ⟨(hw _ (List.mem_of_getElem? (i := 13) rfl)), rfl, hnm⟩) (hw _ (List.mem_of_getElem? (i := 1) rfl)) (ty := (.array .byte)) (by decide) rfl rfl (g := (mkF m 11 #[.val (.ref a1), .val (.long q2), .second, .val (.ref a3)] [(.ref a3), (.ref a1)])) rfl rfl (hb hby d1_11)
  have N10 := Fr.snoc X9 N3 g1
  have f11 := f4.wr W9
  have f12 := f5.other W9 (Or.inr (slot_ne (Or.inr (hw _ (List.mem_of_getElem? (i := 11) rfl))) (Or.inr (hw _ (List.mem_of_getElem? (i := 13) rfl))) (by decide) (t := .long) (t' := (.array .byte)) (by decide) (by decide)))
  have f13 := f6.same W9
  have z14 := Nat.le_trans z7 (Keep.of_wr W9).1
  have K15 := K8.wr W9 (Or.inl (List.mem_of_getElem? (i := 0) rfl))
  refine Go.via (S' := T9.setTop (mkF m 14 #[.val (.ref a1), .val (.long q2), .second, .val (.ref a3)] [])) (fun _ k => st9 _ k) ?_
  exact Go.retV X9 hx (BodyLoose.notSynchronized Bd) Bd.returns (hb hby d1_14) (by rw [e9]; exact ⟨rfl, N10, K15, f12⟩) (by decide) (by decide)
theorem d3_0 : decode prog_15_method_8_code 0 = .ok (.aload_n 1, 1) := by decide +kernel
theorem d3_1 : decode prog_15_method_8_code 1 = .ok (.instanceof 8, 3) := by decide +kernel
theorem d3_4 : decode prog_15_method_8_code 4 = .ok (.ifCond .eq 22, 3) := by decide +kernel
theorem d3_7 : decode prog_15_method_8_code 7 = .ok (.aload_n 1, 1) := by decide +kernel
theorem d3_8 : decode prog_15_method_8_code 8 = .ok (.checkcast 8, 3) := by decide +kernel
theorem d3_11 : decode prog_15_method_8_code 11 = .ok (.getfield 7, 3) := by decide +kernel
theorem d3_14 : decode prog_15_method_8_code 14 = .ok (.aload_n 0, 1) := by decide +kernel
theorem d3_15 : decode prog_15_method_8_code 15 = .ok (.getfield 7, 3) := by decide +kernel
theorem d3_18 : decode prog_15_method_8_code 18 = .ok (.lcmp, 1) := by decide +kernel
theorem d3_19 : decode prog_15_method_8_code 19 = .ok (.ifCond .ne 7, 3) := by decide +kernel
theorem d3_22 : decode prog_15_method_8_code 22 = .ok (.iconst 1, 1) := by decide +kernel
theorem d3_23 : decode prog_15_method_8_code 23 = .ok (.goto 4, 3) := by decide +kernel
theorem d3_27 : decode prog_15_method_8_code 27 = .ok (.ireturn, 1) := by decide +kernel
theorem d3_26 : decode prog_15_method_8_code 26 = .ok (.iconst 0, 1) := by decide +kernel
theorem ef_3 (m : MethodId) (x0 : Addr) (x1 : Addr) : entryFrame m #[(.ref x0), (.ref x1)] 2 = mkF m 0 #[.val (.ref x0), .val (.ref x1)] [] := by first | (simp [entryFrame, mkF, argsToLocals, Value.category]; done) | rfl
def Q3 (Z : State) (a1 : Addr) (a2 : Addr) (w1 : Int64) (w2 : Int64) (h0 : Heap) (n0 : Nat) (v : Option Value) (h : Heap) (L : List Loc) : Prop := ∃ r : Int32, v = some (.int r) ∧ Fr n0 L ∧ h = h0 ∧ ((r = 1 ∧ w2 = w1) ∨ (r = 0 ∧ ¬ w2 = w1))
set_option maxRecDepth 65536 in
set_option maxHeartbeats 40000000 in
theorem rm3 (l : Launch) (Z : State) (a0 : Array Value) (hw : ∀ d ∈ tables_1, d.before a0 Z = true) (ws : List Jvm.Cond) (a1 : Addr) (a2 : Addr) (w1 : Int64) (w2 : Int64) (h0 : Heap) (n0 : Nat) (Z0 : n0 ≤ h0.size) (F1 : Fld Z h0 a1 "com/example/tidegraph/tidegraph/graph/User" "id" "J" (.long w1)) (E2 : Exa Z h0 a2 "com/example/tidegraph/tidegraph/graph/User") (F2 : Fld Z h0 a2 "com/example/tidegraph/tidegraph/graph/User" "id" "J" (.long w2)) :
    MetFree l (⟨"com/example/tidegraph/tidegraph/graph/User", "equals", "(Ljava/lang/Object;)Z"⟩ : MethodName) (head1 (Jvm.Cond.code (⟨"com/example/tidegraph/tidegraph/graph/User", "equals", "(Ljava/lang/Object;)Z"⟩ : MethodName) prog_15_method_8_code 2 (some .boolean) :: ws) ({ frames := 0, cells := 0, slots := 0, locals := 0 } : Room)) (fun a U => a = #[(.ref a1), (.ref a2)] ∧ Z.Warmed39 U.vm ∧ U.heap = h0) (fun _ _ _ _ _ => True) (fun _ U o U' => ∃ v L, o = .returned v ∧ Q3 Z a1 a2 w1 w2 h0 n0 v U'.heap L ∧ FrameEnd U o U' L ({ frames := 0, cells := 0, slots := 0, locals := 0 } : Room).cells ({ frames := 0, cells := 0, slots := 0, locals := 0 } : Room).slots) := by
  refine MetFree.of_bodySF (plainFor_of_name pn_2) hisR ?_
  intro p e s m args below meth c s₁ Bd hml0 hP hK
  obtain ⟨rfl, hZ, hh⟩ := hP
  have hx := Bd.exec
  have hby := Bd.bytes
  have hml : c.maxLocals = 2 := hml0
  have hown : s.vm.findClass "com/example/tidegraph/tidegraph/graph/User" = some m.cls := findClass_of_methodNamed Bd.named
  have hnm := (name_of_methodNamed Bd.named Bd.method).1
  have X0 : Stand p l e ({ frames := 0, cells := 0, slots := 0, locals := 0 } : Room) s m #[(.ref a1), (.ref a2)] below meth c s₁ [] 0 0 := Stand.of_body Bd
  have e0 : s₁.heap = h0 := by rw [← hh, Bd.state]; rfl
  have N0 := Fr.nil n0
  show Go p e below s (Q3 Z a1 a2 w1 w2 h0 n0) ({ frames := 0, cells := 0, slots := 0, locals := 0 } : Room).cells ({ frames := 0, cells := 0, slots := 0, locals := 0 } : Room).slots _
  refine Go.via (S' := s₁.setTop (mkF m 0 #[.val (.ref a1), .val (.ref a2)] [])) (fun t k => castTop (ef_3 m a1 a2) k) ?_
  refine Go.via (S' := s₁.setTop (mkF m 1 #[.val (.ref a1), .val (.ref a2)] [(.ref a2)])) (fun _ k => XS.aloadN X0.here hx rfl (hb hby d3_0) rfl rfl k) ?_
  obtain ⟨T1, X1, e1, st1⟩ := instY X0 hx hZ hown (hw _ (List.mem_of_getElem? (i := 20) rfl)) e0 (Ins.self E2) (g := (mkF m 1 #[.val (.ref a1), .val (.ref a2)] [(.ref a2)])) rfl rfl (hb hby d3_1)
  refine Go.via (S' := T1.setTop (mkF m 4 #[.val (.ref a1), .val (.ref a2)] [(.int (1 : Int32))])) (fun _ k => st1 _ k) ?_
  refine Go.via (S' := T1.setTop (mkF m 7 #[.val (.ref a1), .val (.ref a2)] [])) (fun _ k => XS.ifNo X1.here hx rfl (hb hby d3_4) rfl ((if0 _ _).trans (feq (by decide)).1) k) ?_
  refine Go.via (S' := T1.setTop (mkF m 8 #[.val (.ref a1), .val (.ref a2)] [(.ref a2)])) (fun _ k => XS.aloadN X1.here hx rfl (hb hby d3_7) rfl rfl k) ?_
  obtain ⟨T2, X2, e2, st2⟩ := castY X1 hx hZ hown (hw _ (List.mem_of_getElem? (i := 20) rfl)) e1 (Ins.self E2) (g := (mkF m 8 #[.val (.ref a1), .val (.ref a2)] [(.ref a2)])) rfl rfl (hb hby d3_8)
  refine Go.via (S' := T2.setTop (mkF m 11 #[.val (.ref a1), .val (.ref a2)] [(.ref a2)])) (fun _ k => st2 _ k) ?_
  obtain ⟨T3, X3, e3, st3⟩ := getF X2 hx hZ hown (host := "") (Or.inl (hw _ (List.mem_of_getElem? (i := 10) rfl))) Via.refl e2 F2 (g := (mkF m 11 #[.val (.ref a1), .val (.ref a2)] [(.ref a2)])) rfl rfl (hb hby d3_11)
  refine Go.via (S' := T3.setTop (mkF m 14 #[.val (.ref a1), .val (.ref a2)] [(.long w2)])) (fun _ k => st3 _ k) ?_
  refine Go.via (S' := T3.setTop (mkF m 15 #[.val (.ref a1), .val (.ref a2)] [(.ref a1), (.long w2)])) (fun _ k => XS.aloadN X3.here hx rfl (hb hby d3_14) rfl rfl k) ?_
  obtain ⟨T4, X4, e4, st4⟩ := getF X3 hx hZ hown (host := "") (Or.inl (hw _ (List.mem_of_getElem? (i := 10) rfl))) Via.refl e3 F1 (g := (mkF m 15 #[.val (.ref a1), .val (.ref a2)] [(.ref a1), (.long w2)])) rfl rfl (hb hby d3_15)
  refine Go.via (S' := T4.setTop (mkF m 18 #[.val (.ref a1), .val (.ref a2)] [(.long w1), (.long w2)])) (fun _ k => st4 _ k) ?_
  refine Go.via (S' := T4.setTop (mkF m 19 #[.val (.ref a1), .val (.ref a2)] [(.int (lcmpW w2 w1))])) (fun _ k => XS.lcmp X4.here hx rfl (hb hby d3_18) rfl k) ?_
  rcases Decidable.em (w2 = w1) with hc19 | hc19
  · refine Go.via (S' := T4.setTop (mkF m 22 #[.val (.ref a1), .val (.ref a2)] [])) (fun _ k => XS.ifNo X4.here hx rfl (hb hby d3_19) rfl ((if0 _ _).trans (teq (own_lc5 hc19)).2) k) ?_
    refine Go.via (S' := T4.setTop (mkF m 23 #[.val (.ref a1), .val (.ref a2)] [(.int (1 : Int32))])) (fun _ k => XS.iconst X4.here hx rfl (hb hby d3_22) k) ?_
    refine Go.via (S' := T4.setTop (mkF m 27 #[.val (.ref a1), .val (.ref a2)] [(.int (1 : Int32))])) (fun _ k => XS.goto X4.here hx rfl (pc0 := 23) (pc' := 27) rfl (hb hby d3_23) (by decide) (by decide) k) ?_
    exact Go.retB X4 hx (BodyLoose.notSynchronized Bd) Bd.returns (hb hby d3_27) rfl (by rw [e4]; exact ⟨_, rfl, N0, rfl, Or.inl ⟨rfl, hc19⟩⟩) (by decide) (by decide)
  · refine Go.via (S' := T4.setTop (mkF m 26 #[.val (.ref a1), .val (.ref a2)] [])) (fun _ k => XS.ifYes X4.here hx rfl (pc0 := 19) (pc' := 26) rfl (hb hby d3_19) rfl ((if0 _ _).trans (feq (own_lc6 hc19)).2) (by decide) (by decide) k) ?_
    refine Go.via (S' := T4.setTop (mkF m 27 #[.val (.ref a1), .val (.ref a2)] [(.int (0 : Int32))])) (fun _ k => XS.iconst X4.here hx rfl (hb hby d3_26) k) ?_
    exact Go.retB X4 hx (BodyLoose.notSynchronized Bd) Bd.returns (hb hby d3_27) rfl (by rw [e4]; exact ⟨_, rfl, N0, rfl, Or.inr ⟨rfl, hc19⟩⟩) (by decide) (by decide)
theorem ef_3n (m : MethodId) (x0 : Addr) : entryFrame m #[(.ref x0), .null] 2 = mkF m 0 #[.val (.ref x0), .val .null] [] := by first | (simp [entryFrame, mkF, argsToLocals, Value.category]; done) | rfl
def Q3n (Z : State) (a1 : Addr) (h0 : Heap) (n0 : Nat) (v : Option Value) (h : Heap) (L : List Loc) : Prop := v = some (.int 0) ∧ Fr n0 L ∧ h = h0
set_option maxRecDepth 65536 in
set_option maxHeartbeats 40000000 in
theorem rm3n (l : Launch) (Z : State) (a0 : Array Value) (hw : ∀ d ∈ tables_1, d.before a0 Z = true) (ws : List Jvm.Cond) (a1 : Addr) (h0 : Heap) (n0 : Nat) (Z0 : n0 ≤ h0.size) :
    MetFree l (⟨"com/example/tidegraph/tidegraph/graph/User", "equals", "(Ljava/lang/Object;)Z"⟩ : MethodName) (head1 (Jvm.Cond.code (⟨"com/example/tidegraph/tidegraph/graph/User", "equals", "(Ljava/lang/Object;)Z"⟩ : MethodName) prog_15_method_8_code 2 (some .boolean) :: ws) ({ frames := 0, cells := 0, slots := 0, locals := 0 } : Room)) (fun a U => a = #[(.ref a1), .null] ∧ Z.Warmed39 U.vm ∧ U.heap = h0) (fun _ _ _ _ _ => True) (fun _ U o U' => ∃ v L, o = .returned v ∧ Q3n Z a1 h0 n0 v U'.heap L ∧ FrameEnd U o U' L ({ frames := 0, cells := 0, slots := 0, locals := 0 } : Room).cells ({ frames := 0, cells := 0, slots := 0, locals := 0 } : Room).slots) := by
  refine MetFree.of_bodySF (plainFor_of_name pn_2) hisR ?_
  intro p e s m args below meth c s₁ Bd hml0 hP hK
  obtain ⟨rfl, hZ, hh⟩ := hP
  have hx := Bd.exec
  have hby := Bd.bytes
  have hml : c.maxLocals = 2 := hml0
  have hown : s.vm.findClass "com/example/tidegraph/tidegraph/graph/User" = some m.cls := findClass_of_methodNamed Bd.named
  have hnm := (name_of_methodNamed Bd.named Bd.method).1
  have X0 : Stand p l e ({ frames := 0, cells := 0, slots := 0, locals := 0 } : Room) s m #[(.ref a1), .null] below meth c s₁ [] 0 0 := Stand.of_body Bd
  have e0 : s₁.heap = h0 := by rw [← hh, Bd.state]; rfl
  have N0 := Fr.nil n0
  show Go p e below s (Q3n Z a1 h0 n0) ({ frames := 0, cells := 0, slots := 0, locals := 0 } : Room).cells ({ frames := 0, cells := 0, slots := 0, locals := 0 } : Room).slots _
  refine Go.via (S' := s₁.setTop (mkF m 0 #[.val (.ref a1), .val .null] [])) (fun t k => castTop (ef_3n m a1) k) ?_
  refine Go.via (S' := s₁.setTop (mkF m 1 #[.val (.ref a1), .val .null] [.null])) (fun _ k => XS.aloadN X0.here hx rfl (hb hby d3_0) rfl rfl k) ?_
  refine Go.via (S' := s₁.setTop (mkF m 4 #[.val (.ref a1), .val .null] [(.int (0 : Int32))])) (fun _ k => X0.instanceofNull hx (g := (mkF m 1 #[.val (.ref a1), .val .null] [.null])) rfl rfl (hb hby d3_1) _ k) ?_
  refine Go.via (S' := s₁.setTop (mkF m 26 #[.val (.ref a1), .val .null] [])) (fun _ k => XS.ifYes X0.here hx rfl (pc0 := 4) (pc' := 26) rfl (hb hby d3_4) rfl ((if0 _ _).trans (teq (by decide)).1) (by decide) (by decide) k) ?_
  refine Go.via (S' := s₁.setTop (mkF m 27 #[.val (.ref a1), .val .null] [(.int (0 : Int32))])) (fun _ k => XS.iconst X0.here hx rfl (hb hby d3_26) k) ?_
  exact Go.retB X0 hx (BodyLoose.notSynchronized Bd) Bd.returns (hb hby d3_27) rfl (by rw [e0]; exact ⟨rfl, N0, rfl⟩) (by decide) (by decide)
theorem ef_3l (m : MethodId) (x0 : Addr) (x1 : Addr) : entryFrame m #[(.ref x0), (.ref x1)] 2 = mkF m 0 #[.val (.ref x0), .val (.ref x1)] [] := by first | (simp [entryFrame, mkF, argsToLocals, Value.category]; done) | rfl
def Q3l (Z : State) (a1 : Addr) (a2 : Addr) (h0 : Heap) (n0 : Nat) (v : Option Value) (h : Heap) (L : List Loc) : Prop := v = some (.int 0) ∧ Fr n0 L ∧ h = h0
set_option maxRecDepth 65536 in
set_option maxHeartbeats 40000000 in
theorem rm3l (l : Launch) (Z : State) (a0 : Array Value) (hw : ∀ d ∈ tables_1, d.before a0 Z = true) (ws : List Jvm.Cond) (a1 : Addr) (a2 : Addr) (h0 : Heap) (n0 : Nat) (Z0 : n0 ≤ h0.size) (E2 : Exa Z h0 a2 "java/lang/Long") :
    MetFree l (⟨"com/example/tidegraph/tidegraph/graph/User", "equals", "(Ljava/lang/Object;)Z"⟩ : MethodName) (head1 (Jvm.Cond.code (⟨"com/example/tidegraph/tidegraph/graph/User", "equals", "(Ljava/lang/Object;)Z"⟩ : MethodName) prog_15_method_8_code 2 (some .boolean) :: ws) ({ frames := 0, cells := 0, slots := 0, locals := 0 } : Room)) (fun a U => a = #[(.ref a1), (.ref a2)] ∧ Z.Warmed39 U.vm ∧ U.heap = h0) (fun _ _ _ _ _ => True) (fun _ U o U' => ∃ v L, o = .returned v ∧ Q3l Z a1 a2 h0 n0 v U'.heap L ∧ FrameEnd U o U' L ({ frames := 0, cells := 0, slots := 0, locals := 0 } : Room).cells ({ frames := 0, cells := 0, slots := 0, locals := 0 } : Room).slots) := by
  refine MetFree.of_bodySF (plainFor_of_name pn_2) hisR ?_
  intro p e s m args below meth c s₁ Bd hml0 hP hK
  obtain ⟨rfl, hZ, hh⟩ := hP
  have hx := Bd.exec
  have hby := Bd.bytes
  have hml : c.maxLocals = 2 := hml0
  have hown : s.vm.findClass "com/example/tidegraph/tidegraph/graph/User" = some m.cls := findClass_of_methodNamed Bd.named
  have hnm := (name_of_methodNamed Bd.named Bd.method).1
  have X0 : Stand p l e ({ frames := 0, cells := 0, slots := 0, locals := 0 } : Room) s m #[(.ref a1), (.ref a2)] below meth c s₁ [] 0 0 := Stand.of_body Bd
  have e0 : s₁.heap = h0 := by rw [← hh, Bd.state]; rfl
  have N0 := Fr.nil n0
  show Go p e below s (Q3l Z a1 a2 h0 n0) ({ frames := 0, cells := 0, slots := 0, locals := 0 } : Room).cells ({ frames := 0, cells := 0, slots := 0, locals := 0 } : Room).slots _
  refine Go.via (S' := s₁.setTop (mkF m 0 #[.val (.ref a1), .val (.ref a2)] [])) (fun t k => castTop (ef_3l m a1 a2) k) ?_
  refine Go.via (S' := s₁.setTop (mkF m 1 #[.val (.ref a1), .val (.ref a2)] [(.ref a2)])) (fun _ k => XS.aloadN X0.here hx rfl (hb hby d3_0) rfl rfl k) ?_
  obtain ⟨T2, X2, e2, st2⟩ := instNo X0 hx hZ hown (hw _ (List.mem_of_getElem? (i := 20) rfl)) e0 E2 (own_no (hw _ (List.mem_of_getElem? (i := 30) rfl)) (hw _ (List.mem_of_getElem? (i := 1) rfl)) (NS.step (hw _ (List.mem_of_getElem? (i := 30) rfl)) (NS.step (hw _ (List.mem_of_getElem? (i := 31) rfl)) (own_root (hw _ (List.mem_of_getElem? (i := 32) rfl)) (hw _ (List.mem_of_getElem? (i := 1) rfl)) (by decide)) (by decide)) (by decide)) (by decide)) (g := (mkF m 1 #[.val (.ref a1), .val (.ref a2)] [(.ref a2)])) rfl rfl (hb hby d3_1)
  refine Go.via (S' := T2.setTop (mkF m 4 #[.val (.ref a1), .val (.ref a2)] [(.int (0 : Int32))])) (fun _ k => st2 _ k) ?_
  refine Go.via (S' := T2.setTop (mkF m 26 #[.val (.ref a1), .val (.ref a2)] [])) (fun _ k => XS.ifYes X2.here hx rfl (pc0 := 4) (pc' := 26) rfl (hb hby d3_4) rfl ((if0 _ _).trans (teq (by decide)).1) (by decide) (by decide) k) ?_
  refine Go.via (S' := T2.setTop (mkF m 27 #[.val (.ref a1), .val (.ref a2)] [(.int (0 : Int32))])) (fun _ k => XS.iconst X2.here hx rfl (hb hby d3_26) k) ?_
  exact Go.retB X2 hx (BodyLoose.notSynchronized Bd) Bd.returns (hb hby d3_27) rfl (by rw [e2]; exact ⟨rfl, N0, rfl⟩) (by decide) (by decide)
theorem pd_2 : parseMethodDescriptor "(J[B)V" = some ⟨[.long, (.array .byte)], none⟩ := by decide +kernel
theorem pd_3 : parseMethodDescriptor "(Ljava/lang/Object;)Z" = some ⟨[(.object "java/lang/Object")], some .boolean⟩ := by decide +kernel
theorem pd_4 : parseMethodDescriptor "(J)Ljava/lang/Long;" = some ⟨[.long], some (.object "java/lang/Long")⟩ := by decide +kernel
theorem pn_3 : plainName "com/example/tidegraph/tidegraph/graph/UserEqualsPinLaw" = true := by first | (simp [plainName, overriddenIn]; done) | decide +kernel
theorem ef_0 (m : MethodId) (x0 : Int64) (x1 : Int64) (x2 : Int32) (x3 : Int32) (x4 : Int32) : entryFrame m #[(.long x0), (.long x1), (.int x2), (.int x3), (.int x4)] maxLocals = mkF m 0 #[.val (.long x0), .second, .val (.long x1), .second, .val (.int x2), .val (.int x3), .val (.int x4), .unset, .unset, .unset, .unset] [] := by first | (simp [entryFrame, mkF, argsToLocals, Value.category, maxLocals]; done) | rfl
def Q0 (Z : State) (q1 : Int64) (q2 : Int64) (p3 : Int32) (p4 : Int32) (p5 : Int32) (ca : Addr) (cc : Cell) (h0 : Heap) (n0 : Nat) (v : Option Value) (h : Heap) (L : List Loc) : Prop := v = some (.int 1) ∧ Fr n0 L
set_option maxRecDepth 65536 in
set_option maxHeartbeats 40000000 in
theorem rm0 (l : Launch) (Z : State) (a0 : Array Value) (hw : ∀ d ∈ tables_1, d.before a0 Z = true) (ws : List Jvm.Cond) (q1 : Int64) (q2 : Int64) (p3 : Int32) (p4 : Int32) (p5 : Int32) (ca : Addr) (cc : Cell) (h0 : Heap) (n0 : Nat) (Z0 : n0 ≤ h0.size) (X00 : Old Z n0 h0) (Sc : Sta Z Z.heap "java/lang/Long$LongCache" "cache" "[Ljava/lang/Long;" (.ref ca)) (Bc : Bxs Z ca cc "java/lang/Long" "J" 256 (fun j => .long (j - 128).toInt64)) :
    MetFree l x (head1 (Jvm.Cond.code x code maxLocals ret :: ws) room_1) (fun a U => a = #[(.long q1), (.long q2), (.int p3), (.int p4), (.int p5)] ∧ Z.Warmed39 U.vm ∧ U.heap = h0) (fun _ _ _ _ _ => True) (fun _ U o U' => ∃ v L, o = .returned v ∧ Q0 Z q1 q2 p3 p4 p5 ca cc h0 n0 v U'.heap L ∧ FrameEnd U o U' L room_1.cells room_1.slots) := by
  refine MetFree.of_bodySF (plainFor_of_name pn_3) hisR ?_
  intro p e s m args below meth c s₁ Bd hml0 hP hK
  obtain ⟨rfl, hZ, hh⟩ := hP
  have hx := Bd.exec
  have hby := Bd.bytes
  have hml : c.maxLocals = 11 := hml0
  have hown : s.vm.findClass "com/example/tidegraph/tidegraph/graph/UserEqualsPinLaw" = some m.cls := findClass_of_methodNamed Bd.named
  have hnm := (name_of_methodNamed Bd.named Bd.method).1
  have X0 : Stand p l e room_1 s m #[(.long q1), (.long q2), (.int p3), (.int p4), (.int p5)] below meth c s₁ [] 0 0 := Stand.of_body Bd
  have e0 : s₁.heap = h0 := by rw [← hh, Bd.state]; rfl
  have N0 := Fr.nil n0
  show Go p e below s (Q0 Z q1 q2 p3 p4 p5 ca cc h0 n0) room_1.cells room_1.slots _
  refine Go.via (S' := s₁.setTop (mkF m 0 #[.val (.long q1), .second, .val (.long q2), .second, .val (.int p3), .val (.int p4), .val (.int p5), .unset, .unset, .unset, .unset] [])) (fun t k => castTop (ef_0 m q1 q2 p3 p4 p5) k) ?_
  obtain ⟨T1, h1, X1, e1, E1, A1, D1, -, st1⟩ := newO X0 hx hZ hown (hw _ (List.mem_of_getElem? (i := 0) rfl)) (hw _ (List.mem_of_getElem? (i := 1) rfl)) (hw _ (List.mem_of_getElem? (i := 2) rfl)) e0 (g := (mkF m 0 #[.val (.long q1), .second, .val (.long q2), .second, .val (.int p3), .val (.int p4), .val (.int p5), .unset, .unset, .unset, .unset] [])) rfl (hb hby at_0) (by decide) (by decide)
  obtain ⟨b1, g1⟩ : ∃ z, z = h0.size := ⟨_, rfl⟩
  rw [← g1] at A1 D1 st1
  have g2 : n0 ≤ b1 := Nat.le_trans Z0 (Nat.le_of_eq g1.symm)
  have f3 := X00.ext E1
  have z4 := Nat.le_trans Z0 E1.1
  have F5 : Fld Z h1 b1 "com/example/tidegraph/tidegraph/graph/User" "id" "J" (.long (0 : Int64)) := D1 (Or.inr (hw _ (List.mem_of_getElem? (i := 11) rfl))) (ty := .long) (by decide)
  have F6 : Fld Z h1 b1 "com/example/tidegraph/tidegraph/graph/User" "name" "[B" .null := D1 (Or.inr (hw _ (List.mem_of_getElem? (i := 13) rfl))) (ty := (.array .byte)) (by decide)
  refine Go.via (S' := T1.setTop (mkF m 3 #[.val (.long q1), .second, .val (.long q2), .second, .val (.int p3), .val (.int p4), .val (.int p5), .unset, .unset, .unset, .unset] [(.ref b1)])) (fun _ k => st1 _ k) ?_
  refine Go.via (S' := T1.setTop (mkF m 4 #[.val (.long q1), .second, .val (.long q2), .second, .val (.int p3), .val (.int p4), .val (.int p5), .unset, .unset, .unset, .unset] [(.ref b1), (.ref b1)])) (fun _ k => XS.dup X1.here hx rfl (hb hby at_3) rfl rfl k) ?_
  refine Go.via (S' := T1.setTop (mkF m 5 #[.val (.long q1), .second, .val (.long q2), .second, .val (.int p3), .val (.int p4), .val (.int p5), .unset, .unset, .unset, .unset] [(.long q1), (.ref b1), (.ref b1)])) (fun _ k => XS.lloadN X1.here hx rfl (hb hby at_4) rfl k) ?_
  refine Go.via (S' := T1.setTop (mkF m 6 #[.val (.long q1), .second, .val (.long q2), .second, .val (.int p3), .val (.int p4), .val (.int p5), .unset, .unset, .unset, .unset] [(.int (1 : Int32)), (.long q1), (.ref b1), (.ref b1)])) (fun _ k => XS.iconst X1.here hx rfl (hb hby at_5) k) ?_
  obtain ⟨T7, h7, k7, X7, e7, E7, A7, st7⟩ := newP X1 hx hZ (hw _ (List.mem_of_getElem? (i := 3) rfl)) e1 (g := (mkF m 6 #[.val (.long q1), .second, .val (.long q2), .second, .val (.int p3), .val (.int p4), .val (.int p5), .unset, .unset, .unset, .unset] [(.int (1 : Int32)), (.long q1), (.ref b1), (.ref b1)])) rfl (hb hby at_6) rfl (by decide) (cap := 1) (by decide) (by decide) (by decide) (by decide)
  obtain ⟨b7, g7⟩ : ∃ z, z = h1.size := ⟨_, rfl⟩
  rw [← g7] at A7 st7
  have ne8 : b1 ≠ b7 := Nat.ne_of_lt (Nat.lt_of_lt_of_le A1.lt (Nat.le_of_eq g7.symm))
  have g9 : n0 ≤ b7 := Nat.le_trans z4 (Nat.le_of_eq g7.symm)
  have f10 := f3.ext E7
  have f11 := A1.ext E7
  have f12 := F5.ext E7
  have f13 := F6.ext E7
  have z14 := Nat.le_trans z4 E7.1
  have V15 : Arv Z h7 b7 k7 .byte (1 : Int32) [(.int (0 : Int32))] (.int (0 : Int32)) := (Arv.new A7 (by decide)).pad (pad_rep [] (.int (0 : Int32)) 1)
  refine Go.via (S' := T7.setTop (mkF m 8 #[.val (.long q1), .second, .val (.long q2), .second, .val (.int p3), .val (.int p4), .val (.int p5), .unset, .unset, .unset, .unset] [(.ref b7), (.long q1), (.ref b1), (.ref b1)])) (fun _ k => st7 _ k) ?_
  refine Go.via (S' := T7.setTop (mkF m 9 #[.val (.long q1), .second, .val (.long q2), .second, .val (.int p3), .val (.int p4), .val (.int p5), .unset, .unset, .unset, .unset] [(.ref b7), (.ref b7), (.long q1), (.ref b1), (.ref b1)])) (fun _ k => XS.dup X7.here hx rfl (hb hby at_8) rfl rfl k) ?_
  refine Go.via (S' := T7.setTop (mkF m 10 #[.val (.long q1), .second, .val (.long q2), .second, .val (.int p3), .val (.int p4), .val (.int p5), .unset, .unset, .unset, .unset] [(.int (0 : Int32)), (.ref b7), (.ref b7), (.long q1), (.ref b1), (.ref b1)])) (fun _ k => XS.iconst X7.here hx rfl (hb hby at_9) k) ?_
  refine Go.via (S' := T7.setTop (mkF m 12 #[.val (.long q1), .second, .val (.long q2), .second, .val (.int p3), .val (.int p4), .val (.int p5), .unset, .unset, .unset, .unset] [(.int p4), (.int (0 : Int32)), (.ref b7), (.ref b7), (.long q1), (.ref b1), (.ref b1)])) (fun _ k => XS.iload X7.here hx rfl (hb hby at_10) rfl k) ?_
  refine Go.via (S' := T7.setTop (mkF m 13 #[.val (.long q1), .second, .val (.long q2), .second, .val (.int p3), .val (.int p4), .val (.int p5), .unset, .unset, .unset, .unset] [(.int (p4.toInt8.toInt32)), (.int (0 : Int32)), (.ref b7), (.ref b7), (.long q1), (.ref b1), (.ref b1)])) (fun _ k => XS.i2b X7.here hx rfl (hb hby at_12) rfl k) ?_
  obtain ⟨c16, Ar16, q16, S16, M16, H16, G16⟩ := id V15
  obtain ⟨T16, h16, X16, e16, W16, st16⟩ := stB X7 hx hZ e7 Ar16 (j := (0 : Int32)) (inb_of S16 ⟨by decide, by decide⟩) (g := (mkF m 13 #[.val (.long q1), .second, .val (.long q2), .second, .val (.int p3), .val (.int p4), .val (.int p5), .unset, .unset, .unset, .unset] [(.int (p4.toInt8.toInt32)), (.int (0 : Int32)), (.ref b7), (.ref b7), (.long q1), (.ref b1), (.ref b1)])) rfl rfl (hb hby at_13)
  have V17 : Arv Z h16 b7 k7 .byte (1 : Int32) [(.int (nar .byte (p4.toInt8.toInt32)))] (.int (0 : Int32)) := Arv.set Ar16 q16 S16 M16 H16 G16 (fits_nar_byte _) W16 0 rfl (Nat.le_of_ble_eq_true rfl)
  have N18 := Fr.snoc X16 N0 g9
  have f19 := f10.wr W16 g9
  have f20 := f11.wr W16
  have f21 := f12.other W16 (Or.inl ne8)
  have f22 := f13.other W16 (Or.inl ne8)
  have z23 := Nat.le_trans z14 (Keep.of_wr W16).1
  refine Go.via (S' := T16.setTop (mkF m 14 #[.val (.long q1), .second, .val (.long q2), .second, .val (.int p3), .val (.int p4), .val (.int p5), .unset, .unset, .unset, .unset] [(.ref b7), (.long q1), (.ref b1), (.ref b1)])) (fun _ k => st16 _ k) ?_
  obtain ⟨_, _, ⟨T24, L24, k24, n24⟩, -, X24, ⟨Lc24, hQ24, l24, y24, z24⟩, st24⟩ := X16.specialBack hx (y := (⟨"com/example/tidegraph/tidegraph/graph/User", "<init>", "(J[B)V"⟩ : MethodName)) rfl hown (mvT hZ (hw _ (List.mem_of_getElem? (i := 4) rfl))) (mvT hZ (hw _ (List.mem_of_getElem? (i := 5) rfl))) (mvT hZ (hw _ (List.mem_of_getElem? (i := 6) rfl))) (by decide) (backOf (W := 1) (rm1 l Z a0 hw [] b1 q1 b7 h16 n0 z23 f20 f21 f22 g2) hZ (hw _ (List.mem_of_getElem? (i := 6) rfl)) (hw _ (List.mem_of_getElem? (i := 2) rfl)) (by decide) (by decide)) (g := (mkF m 14 #[.val (.long q1), .second, .val (.long q2), .second, .val (.int p3), .val (.int p4), .val (.int p5), .unset, .unset, .unset, .unset] [(.ref b7), (.long q1), (.ref b1), (.ref b1)])) rfl (by rw [hml]; rfl) (Steps.refl _) (a := b1) (argsL := [(.long q1), (.ref b7)]) (rest := [(.ref b1)]) (lenOf pd_2 rfl) rfl (by show 2 * 0 + _ ≤ _; exact Nat.le_of_eq rfl) (hb hby at_14) (fun _ _ => ⟨rfl, e16, (by decide : 2 + 0 ≤ _), (by decide : 5 + 0 ≤ _)⟩)
  dsimp only [Pt.U, Pt.locs, Pt.cells, Pt.slots] at X24 l24 y24 z24 st24 hQ24
  subst l24 y24 z24
  obtain ⟨rfl, N24q, K24, F24⟩ := hQ24
  have N25 := Fr.app N18 N24q
  have f26 := f19.keep K24 (allS g2 all0)
  have f27 := f20.keep K24
  have f28 := V17.keep K24 (ninS (Ne.symm ne8) nin0)
  have z29 := Nat.le_trans z23 K24.1
  refine Go.via (S' := T24.setTop (mkF m 17 #[.val (.long q1), .second, .val (.long q2), .second, .val (.int p3), .val (.int p4), .val (.int p5), .unset, .unset, .unset, .unset] [(.ref b1)])) (fun _ k => st24.trans k) ?_
  refine Go.via (S' := T24.setTop (mkF m 19 #[.val (.long q1), .second, .val (.long q2), .second, .val (.int p3), .val (.int p4), .val (.int p5), .val (.ref b1), .unset, .unset, .unset] [])) (fun _ k => XS.astore X24.here hx rfl (hb hby at_17) rfl rfl (l' := #[.val (.long q1), .second, .val (.long q2), .second, .val (.int p3), .val (.int p4), .val (.int p5), .val (.ref b1), .unset, .unset, .unset]) rfl k) ?_
  refine Go.via (S' := T24.setTop (mkF m 21 #[.val (.long q1), .second, .val (.long q2), .second, .val (.int p3), .val (.int p4), .val (.int p5), .val (.ref b1), .unset, .unset, .unset] [(.int p3)])) (fun _ k => XS.iload X24.here hx rfl (hb hby at_19) rfl k) ?_
  refine Go.via (S' := T24.setTop (mkF m 23 #[.val (.long q1), .second, .val (.long q2), .second, .val (.int p3), .val (.int p4), .val (.int p5), .val (.ref b1), .unset, .unset, .unset] [(.int (2147483647 : Int32)), (.int p3)])) (fun _ k => X24.ldcInt hx hown (mvT hZ (hw _ (List.mem_of_getElem? (i := 14) rfl))) (g := (mkF m 21 #[.val (.long q1), .second, .val (.long q2), .second, .val (.int p3), .val (.int p4), .val (.int p5), .val (.ref b1), .unset, .unset, .unset] [(.int p3)])) rfl (hb hby at_21) _ k) ?_
  refine Go.via (S' := T24.setTop (mkF m 24 #[.val (.long q1), .second, .val (.long q2), .second, .val (.int p3), .val (.int p4), .val (.int p5), .val (.ref b1), .unset, .unset, .unset] [(.int (p3 &&& (2147483647 : Int32)))])) (fun _ k => XS.iand X24.here hx rfl (hb hby at_23) rfl k) ?_
  refine Go.via (S' := T24.setTop (mkF m 25 #[.val (.long q1), .second, .val (.long q2), .second, .val (.int p3), .val (.int p4), .val (.int p5), .val (.ref b1), .unset, .unset, .unset] [(.int (5 : Int32)), (.int (p3 &&& (2147483647 : Int32)))])) (fun _ k => XS.iconst X24.here hx rfl (hb hby at_24) k) ?_
  refine Go.via (S' := T24.setTop (mkF m 26 #[.val (.long q1), .second, .val (.long q2), .second, .val (.int p3), .val (.int p4), .val (.int p5), .val (.ref b1), .unset, .unset, .unset] [(.int ((p3 &&& (2147483647 : Int32)) % (5 : Int32)))])) (fun _ k => iremM X24 hx rfl (hb hby at_25) rfl (by decide) k) ?_
  refine Go.via (S' := T24.setTop (mkF m 28 #[.val (.long q1), .second, .val (.long q2), .second, .val (.int p3), .val (.int p4), .val (.int p5), .val (.ref b1), .val (.int ((p3 &&& (2147483647 : Int32)) % (5 : Int32))), .unset, .unset] [])) (fun _ k => XS.istore X24.here hx rfl (hb hby at_26) rfl (l' := #[.val (.long q1), .second, .val (.long q2), .second, .val (.int p3), .val (.int p4), .val (.int p5), .val (.ref b1), .val (.int ((p3 &&& (2147483647 : Int32)) % (5 : Int32))), .unset, .unset]) rfl k) ?_
  refine Go.via (S' := T24.setTop (mkF m 30 #[.val (.long q1), .second, .val (.long q2), .second, .val (.int p3), .val (.int p4), .val (.int p5), .val (.ref b1), .val (.int ((p3 &&& (2147483647 : Int32)) % (5 : Int32))), .unset, .unset] [(.int ((p3 &&& (2147483647 : Int32)) % (5 : Int32)))])) (fun _ k => XS.iload X24.here hx rfl (hb hby at_28) rfl k) ?_
  rcases Decidable.em (((p3 &&& (2147483647 : Int32)) % (5 : Int32)) = (0 : Int32)) with hc30 | hc30
  · refine Go.via (S' := T24.setTop (mkF m 33 #[.val (.long q1), .second, .val (.long q2), .second, .val (.int p3), .val (.int p4), .val (.int p5), .val (.ref b1), .val (.int ((p3 &&& (2147483647 : Int32)) % (5 : Int32))), .unset, .unset] [])) (fun _ k => XS.ifNo X24.here hx rfl (hb hby at_30) rfl ((if0 _ _).trans (teq hc30).2) k) ?_
    obtain ⟨T30, h30, X30, e30, E30, A30, D30, -, st30⟩ := newO X24 hx hZ hown (hw _ (List.mem_of_getElem? (i := 0) rfl)) (hw _ (List.mem_of_getElem? (i := 1) rfl)) (hw _ (List.mem_of_getElem? (i := 2) rfl)) rfl (g := (mkF m 33 #[.val (.long q1), .second, .val (.long q2), .second, .val (.int p3), .val (.int p4), .val (.int p5), .val (.ref b1), .val (.int ((p3 &&& (2147483647 : Int32)) % (5 : Int32))), .unset, .unset] [])) rfl (hb hby at_33) (by decide) (by decide)
    obtain ⟨b30, g30⟩ : ∃ z, z = T24.heap.size := ⟨_, rfl⟩
    rw [← g30] at A30 D30 st30
    have ne31 : b1 ≠ b30 := Nat.ne_of_lt (Nat.lt_of_lt_of_le f27.lt (Nat.le_of_eq g30.symm))
    have ne32 : b7 ≠ b30 := Nat.ne_of_lt (Nat.lt_of_lt_of_le f28.lt (Nat.le_of_eq g30.symm))
    have g33 : n0 ≤ b30 := Nat.le_trans z29 (Nat.le_of_eq g30.symm)
    have f34 := f26.ext E30
    have f35 := f27.ext E30
    have f36 := f28.ext E30
    have f37 := F24.ext E30
    have z38 := Nat.le_trans z29 E30.1
    have F39 : Fld Z h30 b30 "com/example/tidegraph/tidegraph/graph/User" "id" "J" (.long (0 : Int64)) := D30 (Or.inr (hw _ (List.mem_of_getElem? (i := 11) rfl))) (ty := .long) (by decide)
    have F40 : Fld Z h30 b30 "com/example/tidegraph/tidegraph/graph/User" "name" "[B" .null := D30 (Or.inr (hw _ (List.mem_of_getElem? (i := 13) rfl))) (ty := (.array .byte)) (by decide)
    refine Go.via (S' := T30.setTop (mkF m 36 #[.val (.long q1), .second, .val (.long q2), .second, .val (.int p3), .val (.int p4), .val (.int p5), .val (.ref b1), .val (.int ((p3 &&& (2147483647 : Int32)) % (5 : Int32))), .unset, .unset] [(.ref b30)])) (fun _ k => st30 _ k) ?_
    refine Go.via (S' := T30.setTop (mkF m 37 #[.val (.long q1), .second, .val (.long q2), .second, .val (.int p3), .val (.int p4), .val (.int p5), .val (.ref b1), .val (.int ((p3 &&& (2147483647 : Int32)) % (5 : Int32))), .unset, .unset] [(.ref b30), (.ref b30)])) (fun _ k => XS.dup X30.here hx rfl (hb hby at_36) rfl rfl k) ?_
    refine Go.via (S' := T30.setTop (mkF m 38 #[.val (.long q1), .second, .val (.long q2), .second, .val (.int p3), .val (.int p4), .val (.int p5), .val (.ref b1), .val (.int ((p3 &&& (2147483647 : Int32)) % (5 : Int32))), .unset, .unset] [(.long q2), (.ref b30), (.ref b30)])) (fun _ k => XS.lloadN X30.here hx rfl (hb hby at_37) rfl k) ?_
    refine Go.via (S' := T30.setTop (mkF m 39 #[.val (.long q1), .second, .val (.long q2), .second, .val (.int p3), .val (.int p4), .val (.int p5), .val (.ref b1), .val (.int ((p3 &&& (2147483647 : Int32)) % (5 : Int32))), .unset, .unset] [(.int (1 : Int32)), (.long q2), (.ref b30), (.ref b30)])) (fun _ k => XS.iconst X30.here hx rfl (hb hby at_38) k) ?_
    obtain ⟨T41, h41, k41, X41, e41, E41, A41, st41⟩ := newP X30 hx hZ (hw _ (List.mem_of_getElem? (i := 3) rfl)) e30 (g := (mkF m 39 #[.val (.long q1), .second, .val (.long q2), .second, .val (.int p3), .val (.int p4), .val (.int p5), .val (.ref b1), .val (.int ((p3 &&& (2147483647 : Int32)) % (5 : Int32))), .unset, .unset] [(.int (1 : Int32)), (.long q2), (.ref b30), (.ref b30)])) rfl (hb hby at_39) rfl (by decide) (cap := 1) (by decide) (by decide) (by decide) (by decide)
    obtain ⟨b41, g41⟩ : ∃ z, z = h30.size := ⟨_, rfl⟩
    rw [← g41] at A41 st41
    have ne42 : b1 ≠ b41 := Nat.ne_of_lt (Nat.lt_of_lt_of_le f35.lt (Nat.le_of_eq g41.symm))
    have ne43 : b30 ≠ b41 := Nat.ne_of_lt (Nat.lt_of_lt_of_le A30.lt (Nat.le_of_eq g41.symm))
    have ne44 : b7 ≠ b41 := Nat.ne_of_lt (Nat.lt_of_lt_of_le f36.lt (Nat.le_of_eq g41.symm))
    have g45 : n0 ≤ b41 := Nat.le_trans z38 (Nat.le_of_eq g41.symm)
    have f46 := f34.ext E41
    have f47 := f35.ext E41
    have f48 := f36.ext E41
    have f49 := f37.ext E41
    have f50 := A30.ext E41
    have f51 := F39.ext E41
    have f52 := F40.ext E41
    have z53 := Nat.le_trans z38 E41.1
    have V54 : Arv Z h41 b41 k41 .byte (1 : Int32) [(.int (0 : Int32))] (.int (0 : Int32)) := (Arv.new A41 (by decide)).pad (pad_rep [] (.int (0 : Int32)) 1)
    refine Go.via (S' := T41.setTop (mkF m 41 #[.val (.long q1), .second, .val (.long q2), .second, .val (.int p3), .val (.int p4), .val (.int p5), .val (.ref b1), .val (.int ((p3 &&& (2147483647 : Int32)) % (5 : Int32))), .unset, .unset] [(.ref b41), (.long q2), (.ref b30), (.ref b30)])) (fun _ k => st41 _ k) ?_
    refine Go.via (S' := T41.setTop (mkF m 42 #[.val (.long q1), .second, .val (.long q2), .second, .val (.int p3), .val (.int p4), .val (.int p5), .val (.ref b1), .val (.int ((p3 &&& (2147483647 : Int32)) % (5 : Int32))), .unset, .unset] [(.ref b41), (.ref b41), (.long q2), (.ref b30), (.ref b30)])) (fun _ k => XS.dup X41.here hx rfl (hb hby at_41) rfl rfl k) ?_
    refine Go.via (S' := T41.setTop (mkF m 43 #[.val (.long q1), .second, .val (.long q2), .second, .val (.int p3), .val (.int p4), .val (.int p5), .val (.ref b1), .val (.int ((p3 &&& (2147483647 : Int32)) % (5 : Int32))), .unset, .unset] [(.int (0 : Int32)), (.ref b41), (.ref b41), (.long q2), (.ref b30), (.ref b30)])) (fun _ k => XS.iconst X41.here hx rfl (hb hby at_42) k) ?_
    refine Go.via (S' := T41.setTop (mkF m 45 #[.val (.long q1), .second, .val (.long q2), .second, .val (.int p3), .val (.int p4), .val (.int p5), .val (.ref b1), .val (.int ((p3 &&& (2147483647 : Int32)) % (5 : Int32))), .unset, .unset] [(.int p5), (.int (0 : Int32)), (.ref b41), (.ref b41), (.long q2), (.ref b30), (.ref b30)])) (fun _ k => XS.iload X41.here hx rfl (hb hby at_43) rfl k) ?_
    refine Go.via (S' := T41.setTop (mkF m 46 #[.val (.long q1), .second, .val (.long q2), .second, .val (.int p3), .val (.int p4), .val (.int p5), .val (.ref b1), .val (.int ((p3 &&& (2147483647 : Int32)) % (5 : Int32))), .unset, .unset] [(.int (p5.toInt8.toInt32)), (.int (0 : Int32)), (.ref b41), (.ref b41), (.long q2), (.ref b30), (.ref b30)])) (fun _ k => XS.i2b X41.here hx rfl (hb hby at_45) rfl k) ?_
    obtain ⟨c55, Ar55, q55, S55, M55, H55, G55⟩ := id V54
    obtain ⟨T55, h55, X55, e55, W55, st55⟩ := stB X41 hx hZ e41 Ar55 (j := (0 : Int32)) (inb_of S55 ⟨by decide, by decide⟩) (g := (mkF m 46 #[.val (.long q1), .second, .val (.long q2), .second, .val (.int p3), .val (.int p4), .val (.int p5), .val (.ref b1), .val (.int ((p3 &&& (2147483647 : Int32)) % (5 : Int32))), .unset, .unset] [(.int (p5.toInt8.toInt32)), (.int (0 : Int32)), (.ref b41), (.ref b41), (.long q2), (.ref b30), (.ref b30)])) rfl rfl (hb hby at_46)
    have V56 : Arv Z h55 b41 k41 .byte (1 : Int32) [(.int (nar .byte (p5.toInt8.toInt32)))] (.int (0 : Int32)) := Arv.set Ar55 q55 S55 M55 H55 G55 (fits_nar_byte _) W55 0 rfl (Nat.le_of_ble_eq_true rfl)
    have N57 := Fr.snoc X55 N25 g45
    have f58 := f46.wr W55 g45
    have f59 := f47.wr W55
    have f60 := f48.other W55 ne44
    have f61 := f49.other W55 (Or.inl ne42)
    have f62 := f50.wr W55
    have f63 := f51.other W55 (Or.inl ne43)
    have f64 := f52.other W55 (Or.inl ne43)
    have z65 := Nat.le_trans z53 (Keep.of_wr W55).1
    refine Go.via (S' := T55.setTop (mkF m 47 #[.val (.long q1), .second, .val (.long q2), .second, .val (.int p3), .val (.int p4), .val (.int p5), .val (.ref b1), .val (.int ((p3 &&& (2147483647 : Int32)) % (5 : Int32))), .unset, .unset] [(.ref b41), (.long q2), (.ref b30), (.ref b30)])) (fun _ k => st55 _ k) ?_
    obtain ⟨_, _, ⟨T66, L66, k66, n66⟩, -, X66, ⟨Lc66, hQ66, l66, y66, z66⟩, st66⟩ := X55.specialBack hx (y := (⟨"com/example/tidegraph/tidegraph/graph/User", "<init>", "(J[B)V"⟩ : MethodName)) rfl hown (mvT hZ (hw _ (List.mem_of_getElem? (i := 4) rfl))) (mvT hZ (hw _ (List.mem_of_getElem? (i := 5) rfl))) (mvT hZ (hw _ (List.mem_of_getElem? (i := 6) rfl))) (by decide) (backOf (W := 1) (rm1 l Z a0 hw [] b30 q2 b41 h55 n0 z65 f62 f63 f64 g33) hZ (hw _ (List.mem_of_getElem? (i := 6) rfl)) (hw _ (List.mem_of_getElem? (i := 2) rfl)) (by decide) (by decide)) (g := (mkF m 47 #[.val (.long q1), .second, .val (.long q2), .second, .val (.int p3), .val (.int p4), .val (.int p5), .val (.ref b1), .val (.int ((p3 &&& (2147483647 : Int32)) % (5 : Int32))), .unset, .unset] [(.ref b41), (.long q2), (.ref b30), (.ref b30)])) rfl (by rw [hml]; rfl) (Steps.refl _) (a := b30) (argsL := [(.long q2), (.ref b41)]) (rest := [(.ref b30)]) (lenOf pd_2 rfl) rfl (by show 2 * 0 + _ ≤ _; exact Nat.le_of_eq rfl) (hb hby at_47) (fun _ _ => ⟨rfl, e55, (by decide : 4 + 0 ≤ _), (by decide : 10 + 0 ≤ _)⟩)
    dsimp only [Pt.U, Pt.locs, Pt.cells, Pt.slots] at X66 l66 y66 z66 st66 hQ66
    subst l66 y66 z66
    obtain ⟨rfl, N66q, K66, F66⟩ := hQ66
    have N67 := Fr.app N57 N66q
    have f68 := f58.keep K66 (allS g33 all0)
    have f69 := f59.keep K66
    have f70 := f60.keep K66 (ninS ne32 nin0)
    have f71 := f61.keep K66 (ninS ne31 nin0)
    have f72 := f62.keep K66
    have f73 := V56.keep K66 (ninS (Ne.symm ne43) nin0)
    have z74 := Nat.le_trans z65 K66.1
    refine Go.via (S' := T66.setTop (mkF m 50 #[.val (.long q1), .second, .val (.long q2), .second, .val (.int p3), .val (.int p4), .val (.int p5), .val (.ref b1), .val (.int ((p3 &&& (2147483647 : Int32)) % (5 : Int32))), .unset, .unset] [(.ref b30)])) (fun _ k => st66.trans k) ?_
    refine Go.via (S' := T66.setTop (mkF m 52 #[.val (.long q1), .second, .val (.long q2), .second, .val (.int p3), .val (.int p4), .val (.int p5), .val (.ref b1), .val (.int ((p3 &&& (2147483647 : Int32)) % (5 : Int32))), .val (.ref b30), .unset] [])) (fun _ k => XS.astore X66.here hx rfl (hb hby at_50) rfl rfl (l' := #[.val (.long q1), .second, .val (.long q2), .second, .val (.int p3), .val (.int p4), .val (.int p5), .val (.ref b1), .val (.int ((p3 &&& (2147483647 : Int32)) % (5 : Int32))), .val (.ref b30), .unset]) rfl k) ?_
    refine Go.via (S' := T66.setTop (mkF m 53 #[.val (.long q1), .second, .val (.long q2), .second, .val (.int p3), .val (.int p4), .val (.int p5), .val (.ref b1), .val (.int ((p3 &&& (2147483647 : Int32)) % (5 : Int32))), .val (.ref b30), .unset] [(.long q1)])) (fun _ k => XS.lloadN X66.here hx rfl (hb hby at_52) rfl k) ?_
    refine Go.via (S' := T66.setTop (mkF m 54 #[.val (.long q1), .second, .val (.long q2), .second, .val (.int p3), .val (.int p4), .val (.int p5), .val (.ref b1), .val (.int ((p3 &&& (2147483647 : Int32)) % (5 : Int32))), .val (.ref b30), .unset] [(.long q2), (.long q1)])) (fun _ k => XS.lloadN X66.here hx rfl (hb hby at_53) rfl k) ?_
    refine Go.via (S' := T66.setTop (mkF m 55 #[.val (.long q1), .second, .val (.long q2), .second, .val (.int p3), .val (.int p4), .val (.int p5), .val (.ref b1), .val (.int ((p3 &&& (2147483647 : Int32)) % (5 : Int32))), .val (.ref b30), .unset] [(.int (lcmpW q1 q2))])) (fun _ k => XS.lcmp X66.here hx rfl (hb hby at_54) rfl k) ?_
    rcases Decidable.em (q1 = q2) with hc55 | hc55
    · refine Go.via (S' := T66.setTop (mkF m 58 #[.val (.long q1), .second, .val (.long q2), .second, .val (.int p3), .val (.int p4), .val (.int p5), .val (.ref b1), .val (.int ((p3 &&& (2147483647 : Int32)) % (5 : Int32))), .val (.ref b30), .unset] [])) (fun _ k => XS.ifNo X66.here hx rfl (hb hby at_55) rfl ((if0 _ _).trans (teq (own_lc5 hc55)).2) k) ?_
      refine Go.via (S' := T66.setTop (mkF m 59 #[.val (.long q1), .second, .val (.long q2), .second, .val (.int p3), .val (.int p4), .val (.int p5), .val (.ref b1), .val (.int ((p3 &&& (2147483647 : Int32)) % (5 : Int32))), .val (.ref b30), .unset] [(.int (1 : Int32))])) (fun _ k => XS.iconst X66.here hx rfl (hb hby at_58) k) ?_
      refine Go.via (S' := T66.setTop (mkF m 63 #[.val (.long q1), .second, .val (.long q2), .second, .val (.int p3), .val (.int p4), .val (.int p5), .val (.ref b1), .val (.int ((p3 &&& (2147483647 : Int32)) % (5 : Int32))), .val (.ref b30), .unset] [(.int (1 : Int32))])) (fun _ k => XS.goto X66.here hx rfl (pc0 := 59) (pc' := 63) rfl (hb hby at_59) (by decide) (by decide) k) ?_
      refine Go.via (S' := T66.setTop (mkF m 65 #[.val (.long q1), .second, .val (.long q2), .second, .val (.int p3), .val (.int p4), .val (.int p5), .val (.ref b1), .val (.int ((p3 &&& (2147483647 : Int32)) % (5 : Int32))), .val (.ref b30), .val (.int (1 : Int32))] [])) (fun _ k => XS.istore X66.here hx rfl (hb hby at_63) rfl (l' := #[.val (.long q1), .second, .val (.long q2), .second, .val (.int p3), .val (.int p4), .val (.int p5), .val (.ref b1), .val (.int ((p3 &&& (2147483647 : Int32)) % (5 : Int32))), .val (.ref b30), .val (.int (1 : Int32))]) rfl k) ?_
      refine Go.via (S' := T66.setTop (mkF m 139 #[.val (.long q1), .second, .val (.long q2), .second, .val (.int p3), .val (.int p4), .val (.int p5), .val (.ref b1), .val (.int ((p3 &&& (2147483647 : Int32)) % (5 : Int32))), .val (.ref b30), .val (.int (1 : Int32))] [])) (fun _ k => XS.goto X66.here hx rfl (pc0 := 65) (pc' := 139) rfl (hb hby at_65) (by decide) (by decide) k) ?_
      refine Go.via (S' := T66.setTop (mkF m 141 #[.val (.long q1), .second, .val (.long q2), .second, .val (.int p3), .val (.int p4), .val (.int p5), .val (.ref b1), .val (.int ((p3 &&& (2147483647 : Int32)) % (5 : Int32))), .val (.ref b30), .val (.int (1 : Int32))] [(.ref b1)])) (fun _ k => XS.aload X66.here hx rfl (hb hby at_139) rfl rfl k) ?_
      refine Go.via (S' := T66.setTop (mkF m 143 #[.val (.long q1), .second, .val (.long q2), .second, .val (.int p3), .val (.int p4), .val (.int p5), .val (.ref b1), .val (.int ((p3 &&& (2147483647 : Int32)) % (5 : Int32))), .val (.ref b30), .val (.int (1 : Int32))] [(.ref b30), (.ref b1)])) (fun _ k => XS.aload X66.here hx rfl (hb hby at_141) rfl rfl k) ?_
      obtain ⟨cq75, kq75, q75a, q75b, q75c⟩ := isOf hZ rfl f69
      obtain ⟨_, _, ⟨T75, L75, k75, n75⟩, -, X75, ⟨Lc75, hQ75, l75, y75, z75⟩, st75⟩ := X66.virtualBack hx (y := (⟨"com/example/tidegraph/tidegraph/graph/User", "equals", "(Ljava/lang/Object;)Z"⟩ : MethodName)) (z := (⟨"com/example/tidegraph/tidegraph/graph/User", "equals", "(Ljava/lang/Object;)Z"⟩ : MethodName)) hown (mvT hZ (hw _ (List.mem_of_getElem? (i := 15) rfl))) (mvT hZ (hw _ (List.mem_of_getElem? (i := 16) rfl))) (notFace_of_selects (args := #[]) (mvT hZ (hw _ (List.mem_of_getElem? (i := 18) rfl)))) (mvT hZ (hw _ (List.mem_of_getElem? (i := 18) rfl))) (mvT hZ (hw _ (List.mem_of_getElem? (i := 17) rfl))) (by decide) (backOf (W := 0) (rm3 l Z a0 hw [] b1 b30 q1 q2 T66.heap n0 z74 f71 f72 F66) hZ (hw _ (List.mem_of_getElem? (i := 19) rfl)) (hw _ (List.mem_of_getElem? (i := 2) rfl)) (by decide) (by decide)) q75a q75c (g := (mkF m 143 #[.val (.long q1), .second, .val (.long q2), .second, .val (.int p3), .val (.int p4), .val (.int p5), .val (.ref b1), .val (.int ((p3 &&& (2147483647 : Int32)) % (5 : Int32))), .val (.ref b30), .val (.int (1 : Int32))] [(.ref b30), (.ref b1)])) rfl (by rw [hml]; rfl) (Steps.refl _) (argsL := [(.ref b30)]) (rest := []) (lenOf pd_3 rfl) rfl (by show 2 * 0 + _ ≤ _; exact Nat.le_of_eq rfl) (hb hby at_143) (fun _ _ => ⟨rfl, rfl, (by decide : 4 + 0 ≤ _), (by decide : 10 + 0 ≤ _)⟩)
      dsimp only [Pt.U, Pt.locs, Pt.cells, Pt.slots] at X75 l75 y75 z75 st75 hQ75
      subst l75 y75 z75
      obtain ⟨r75, rfl, N75q, e75, hr75⟩ := hQ75
      have N76 := Fr.app N67 N75q
      refine Go.via (S' := T75.setTop (mkF m 146 #[.val (.long q1), .second, .val (.long q2), .second, .val (.int p3), .val (.int p4), .val (.int p5), .val (.ref b1), .val (.int ((p3 &&& (2147483647 : Int32)) % (5 : Int32))), .val (.ref b30), .val (.int (1 : Int32))] [(.int r75)])) (fun _ k => st75.trans k) ?_
      rcases hr75 with ⟨rfl, hB⟩ | ⟨rfl, hB⟩
      · refine Go.via (S' := T75.setTop (mkF m 148 #[.val (.long q1), .second, .val (.long q2), .second, .val (.int p3), .val (.int p4), .val (.int p5), .val (.ref b1), .val (.int ((p3 &&& (2147483647 : Int32)) % (5 : Int32))), .val (.ref b30), .val (.int (1 : Int32))] [(.int (1 : Int32)), (.int (1 : Int32))])) (fun _ k => XS.iload X75.here hx rfl (hb hby at_146) rfl k) ?_
        refine Go.via (S' := T75.setTop (mkF m 151 #[.val (.long q1), .second, .val (.long q2), .second, .val (.int p3), .val (.int p4), .val (.int p5), .val (.ref b1), .val (.int ((p3 &&& (2147483647 : Int32)) % (5 : Int32))), .val (.ref b30), .val (.int (1 : Int32))] [])) (fun _ k => XS.icmpNo X75.here hx rfl (hb hby at_148) rfl (teq (by decide)).2 k) ?_
        refine Go.via (S' := T75.setTop (mkF m 152 #[.val (.long q1), .second, .val (.long q2), .second, .val (.int p3), .val (.int p4), .val (.int p5), .val (.ref b1), .val (.int ((p3 &&& (2147483647 : Int32)) % (5 : Int32))), .val (.ref b30), .val (.int (1 : Int32))] [(.int (1 : Int32))])) (fun _ k => XS.iconst X75.here hx rfl (hb hby at_151) k) ?_
        refine Go.via (S' := T75.setTop (mkF m 156 #[.val (.long q1), .second, .val (.long q2), .second, .val (.int p3), .val (.int p4), .val (.int p5), .val (.ref b1), .val (.int ((p3 &&& (2147483647 : Int32)) % (5 : Int32))), .val (.ref b30), .val (.int (1 : Int32))] [(.int (1 : Int32))])) (fun _ k => XS.goto X75.here hx rfl (pc0 := 152) (pc' := 156) rfl (hb hby at_152) (by decide) (by decide) k) ?_
        exact Go.retB X75 hx (BodyLoose.notSynchronized Bd) Bd.returns (hb hby at_156) rfl (by rw [e75]; exact ⟨rfl, N76⟩) (by decide) (by decide)
      · refine Go.via (S' := T75.setTop (mkF m 148 #[.val (.long q1), .second, .val (.long q2), .second, .val (.int p3), .val (.int p4), .val (.int p5), .val (.ref b1), .val (.int ((p3 &&& (2147483647 : Int32)) % (5 : Int32))), .val (.ref b30), .val (.int (1 : Int32))] [(.int (1 : Int32)), (.int (0 : Int32))])) (fun _ k => XS.iload X75.here hx rfl (hb hby at_146) rfl k) ?_
        refine Go.via (S' := T75.setTop (mkF m 155 #[.val (.long q1), .second, .val (.long q2), .second, .val (.int p3), .val (.int p4), .val (.int p5), .val (.ref b1), .val (.int ((p3 &&& (2147483647 : Int32)) % (5 : Int32))), .val (.ref b30), .val (.int (1 : Int32))] [])) (fun _ k => XS.icmpYes X75.here hx rfl (pc0 := 148) (pc' := 155) rfl (hb hby at_148) rfl (feq (by decide)).2 (by decide) (by decide) k) ?_
        exfalso
        first | exact hB rfl | exact hc55 hB.symm | exact hB hc55.symm
    · refine Go.via (S' := T66.setTop (mkF m 62 #[.val (.long q1), .second, .val (.long q2), .second, .val (.int p3), .val (.int p4), .val (.int p5), .val (.ref b1), .val (.int ((p3 &&& (2147483647 : Int32)) % (5 : Int32))), .val (.ref b30), .unset] [])) (fun _ k => XS.ifYes X66.here hx rfl (pc0 := 55) (pc' := 62) rfl (hb hby at_55) rfl ((if0 _ _).trans (feq (own_lc6 hc55)).2) (by decide) (by decide) k) ?_
      refine Go.via (S' := T66.setTop (mkF m 63 #[.val (.long q1), .second, .val (.long q2), .second, .val (.int p3), .val (.int p4), .val (.int p5), .val (.ref b1), .val (.int ((p3 &&& (2147483647 : Int32)) % (5 : Int32))), .val (.ref b30), .unset] [(.int (0 : Int32))])) (fun _ k => XS.iconst X66.here hx rfl (hb hby at_62) k) ?_
      refine Go.via (S' := T66.setTop (mkF m 65 #[.val (.long q1), .second, .val (.long q2), .second, .val (.int p3), .val (.int p4), .val (.int p5), .val (.ref b1), .val (.int ((p3 &&& (2147483647 : Int32)) % (5 : Int32))), .val (.ref b30), .val (.int (0 : Int32))] [])) (fun _ k => XS.istore X66.here hx rfl (hb hby at_63) rfl (l' := #[.val (.long q1), .second, .val (.long q2), .second, .val (.int p3), .val (.int p4), .val (.int p5), .val (.ref b1), .val (.int ((p3 &&& (2147483647 : Int32)) % (5 : Int32))), .val (.ref b30), .val (.int (0 : Int32))]) rfl k) ?_
      refine Go.via (S' := T66.setTop (mkF m 139 #[.val (.long q1), .second, .val (.long q2), .second, .val (.int p3), .val (.int p4), .val (.int p5), .val (.ref b1), .val (.int ((p3 &&& (2147483647 : Int32)) % (5 : Int32))), .val (.ref b30), .val (.int (0 : Int32))] [])) (fun _ k => XS.goto X66.here hx rfl (pc0 := 65) (pc' := 139) rfl (hb hby at_65) (by decide) (by decide) k) ?_
      refine Go.via (S' := T66.setTop (mkF m 141 #[.val (.long q1), .second, .val (.long q2), .second, .val (.int p3), .val (.int p4), .val (.int p5), .val (.ref b1), .val (.int ((p3 &&& (2147483647 : Int32)) % (5 : Int32))), .val (.ref b30), .val (.int (0 : Int32))] [(.ref b1)])) (fun _ k => XS.aload X66.here hx rfl (hb hby at_139) rfl rfl k) ?_
      refine Go.via (S' := T66.setTop (mkF m 143 #[.val (.long q1), .second, .val (.long q2), .second, .val (.int p3), .val (.int p4), .val (.int p5), .val (.ref b1), .val (.int ((p3 &&& (2147483647 : Int32)) % (5 : Int32))), .val (.ref b30), .val (.int (0 : Int32))] [(.ref b30), (.ref b1)])) (fun _ k => XS.aload X66.here hx rfl (hb hby at_141) rfl rfl k) ?_
      obtain ⟨cq77, kq77, q77a, q77b, q77c⟩ := isOf hZ rfl f69
      obtain ⟨_, _, ⟨T77, L77, k77, n77⟩, -, X77, ⟨Lc77, hQ77, l77, y77, z77⟩, st77⟩ := X66.virtualBack hx (y := (⟨"com/example/tidegraph/tidegraph/graph/User", "equals", "(Ljava/lang/Object;)Z"⟩ : MethodName)) (z := (⟨"com/example/tidegraph/tidegraph/graph/User", "equals", "(Ljava/lang/Object;)Z"⟩ : MethodName)) hown (mvT hZ (hw _ (List.mem_of_getElem? (i := 15) rfl))) (mvT hZ (hw _ (List.mem_of_getElem? (i := 16) rfl))) (notFace_of_selects (args := #[]) (mvT hZ (hw _ (List.mem_of_getElem? (i := 18) rfl)))) (mvT hZ (hw _ (List.mem_of_getElem? (i := 18) rfl))) (mvT hZ (hw _ (List.mem_of_getElem? (i := 17) rfl))) (by decide) (backOf (W := 0) (rm3 l Z a0 hw [] b1 b30 q1 q2 T66.heap n0 z74 f71 f72 F66) hZ (hw _ (List.mem_of_getElem? (i := 19) rfl)) (hw _ (List.mem_of_getElem? (i := 2) rfl)) (by decide) (by decide)) q77a q77c (g := (mkF m 143 #[.val (.long q1), .second, .val (.long q2), .second, .val (.int p3), .val (.int p4), .val (.int p5), .val (.ref b1), .val (.int ((p3 &&& (2147483647 : Int32)) % (5 : Int32))), .val (.ref b30), .val (.int (0 : Int32))] [(.ref b30), (.ref b1)])) rfl (by rw [hml]; rfl) (Steps.refl _) (argsL := [(.ref b30)]) (rest := []) (lenOf pd_3 rfl) rfl (by show 2 * 0 + _ ≤ _; exact Nat.le_of_eq rfl) (hb hby at_143) (fun _ _ => ⟨rfl, rfl, (by decide : 4 + 0 ≤ _), (by decide : 10 + 0 ≤ _)⟩)
      dsimp only [Pt.U, Pt.locs, Pt.cells, Pt.slots] at X77 l77 y77 z77 st77 hQ77
      subst l77 y77 z77
      obtain ⟨r77, rfl, N77q, e77, hr77⟩ := hQ77
      have N78 := Fr.app N67 N77q
      refine Go.via (S' := T77.setTop (mkF m 146 #[.val (.long q1), .second, .val (.long q2), .second, .val (.int p3), .val (.int p4), .val (.int p5), .val (.ref b1), .val (.int ((p3 &&& (2147483647 : Int32)) % (5 : Int32))), .val (.ref b30), .val (.int (0 : Int32))] [(.int r77)])) (fun _ k => st77.trans k) ?_
      rcases hr77 with ⟨rfl, hB⟩ | ⟨rfl, hB⟩
      · refine Go.via (S' := T77.setTop (mkF m 148 #[.val (.long q1), .second, .val (.long q2), .second, .val (.int p3), .val (.int p4), .val (.int p5), .val (.ref b1), .val (.int ((p3 &&& (2147483647 : Int32)) % (5 : Int32))), .val (.ref b30), .val (.int (0 : Int32))] [(.int (0 : Int32)), (.int (1 : Int32))])) (fun _ k => XS.iload X77.here hx rfl (hb hby at_146) rfl k) ?_
        refine Go.via (S' := T77.setTop (mkF m 155 #[.val (.long q1), .second, .val (.long q2), .second, .val (.int p3), .val (.int p4), .val (.int p5), .val (.ref b1), .val (.int ((p3 &&& (2147483647 : Int32)) % (5 : Int32))), .val (.ref b30), .val (.int (0 : Int32))] [])) (fun _ k => XS.icmpYes X77.here hx rfl (pc0 := 148) (pc' := 155) rfl (hb hby at_148) rfl (feq (by decide)).2 (by decide) (by decide) k) ?_
        exfalso
        first | exact hB rfl | exact hc55 hB.symm | exact hB hc55.symm
      · refine Go.via (S' := T77.setTop (mkF m 148 #[.val (.long q1), .second, .val (.long q2), .second, .val (.int p3), .val (.int p4), .val (.int p5), .val (.ref b1), .val (.int ((p3 &&& (2147483647 : Int32)) % (5 : Int32))), .val (.ref b30), .val (.int (0 : Int32))] [(.int (0 : Int32)), (.int (0 : Int32))])) (fun _ k => XS.iload X77.here hx rfl (hb hby at_146) rfl k) ?_
        refine Go.via (S' := T77.setTop (mkF m 151 #[.val (.long q1), .second, .val (.long q2), .second, .val (.int p3), .val (.int p4), .val (.int p5), .val (.ref b1), .val (.int ((p3 &&& (2147483647 : Int32)) % (5 : Int32))), .val (.ref b30), .val (.int (0 : Int32))] [])) (fun _ k => XS.icmpNo X77.here hx rfl (hb hby at_148) rfl (teq (by decide)).2 k) ?_
        refine Go.via (S' := T77.setTop (mkF m 152 #[.val (.long q1), .second, .val (.long q2), .second, .val (.int p3), .val (.int p4), .val (.int p5), .val (.ref b1), .val (.int ((p3 &&& (2147483647 : Int32)) % (5 : Int32))), .val (.ref b30), .val (.int (0 : Int32))] [(.int (1 : Int32))])) (fun _ k => XS.iconst X77.here hx rfl (hb hby at_151) k) ?_
        refine Go.via (S' := T77.setTop (mkF m 156 #[.val (.long q1), .second, .val (.long q2), .second, .val (.int p3), .val (.int p4), .val (.int p5), .val (.ref b1), .val (.int ((p3 &&& (2147483647 : Int32)) % (5 : Int32))), .val (.ref b30), .val (.int (0 : Int32))] [(.int (1 : Int32))])) (fun _ k => XS.goto X77.here hx rfl (pc0 := 152) (pc' := 156) rfl (hb hby at_152) (by decide) (by decide) k) ?_
        exact Go.retB X77 hx (BodyLoose.notSynchronized Bd) Bd.returns (hb hby at_156) rfl (by rw [e77]; exact ⟨rfl, N78⟩) (by decide) (by decide)
  · refine Go.via (S' := T24.setTop (mkF m 68 #[.val (.long q1), .second, .val (.long q2), .second, .val (.int p3), .val (.int p4), .val (.int p5), .val (.ref b1), .val (.int ((p3 &&& (2147483647 : Int32)) % (5 : Int32))), .unset, .unset] [])) (fun _ k => XS.ifYes X24.here hx rfl (pc0 := 30) (pc' := 68) rfl (hb hby at_30) rfl ((if0 _ _).trans (feq hc30).2) (by decide) (by decide) k) ?_
    refine Go.via (S' := T24.setTop (mkF m 70 #[.val (.long q1), .second, .val (.long q2), .second, .val (.int p3), .val (.int p4), .val (.int p5), .val (.ref b1), .val (.int ((p3 &&& (2147483647 : Int32)) % (5 : Int32))), .unset, .unset] [(.int ((p3 &&& (2147483647 : Int32)) % (5 : Int32)))])) (fun _ k => XS.iload X24.here hx rfl (hb hby at_68) rfl k) ?_
    refine Go.via (S' := T24.setTop (mkF m 71 #[.val (.long q1), .second, .val (.long q2), .second, .val (.int p3), .val (.int p4), .val (.int p5), .val (.ref b1), .val (.int ((p3 &&& (2147483647 : Int32)) % (5 : Int32))), .unset, .unset] [(.int (1 : Int32)), (.int ((p3 &&& (2147483647 : Int32)) % (5 : Int32)))])) (fun _ k => XS.iconst X24.here hx rfl (hb hby at_70) k) ?_
    rcases Decidable.em (((p3 &&& (2147483647 : Int32)) % (5 : Int32)) = (1 : Int32)) with hc71 | hc71
    · refine Go.via (S' := T24.setTop (mkF m 74 #[.val (.long q1), .second, .val (.long q2), .second, .val (.int p3), .val (.int p4), .val (.int p5), .val (.ref b1), .val (.int ((p3 &&& (2147483647 : Int32)) % (5 : Int32))), .unset, .unset] [])) (fun _ k => XS.icmpNo X24.here hx rfl (hb hby at_71) rfl (teq hc71).2 k) ?_
      obtain ⟨T79, h79, X79, e79, E79, A79, D79, -, st79⟩ := newO X24 hx hZ hown (hw _ (List.mem_of_getElem? (i := 0) rfl)) (hw _ (List.mem_of_getElem? (i := 1) rfl)) (hw _ (List.mem_of_getElem? (i := 2) rfl)) rfl (g := (mkF m 74 #[.val (.long q1), .second, .val (.long q2), .second, .val (.int p3), .val (.int p4), .val (.int p5), .val (.ref b1), .val (.int ((p3 &&& (2147483647 : Int32)) % (5 : Int32))), .unset, .unset] [])) rfl (hb hby at_74) (by decide) (by decide)
      obtain ⟨b79, g79⟩ : ∃ z, z = T24.heap.size := ⟨_, rfl⟩
      rw [← g79] at A79 D79 st79
      have ne80 : b1 ≠ b79 := Nat.ne_of_lt (Nat.lt_of_lt_of_le f27.lt (Nat.le_of_eq g79.symm))
      have ne81 : b7 ≠ b79 := Nat.ne_of_lt (Nat.lt_of_lt_of_le f28.lt (Nat.le_of_eq g79.symm))
      have g82 : n0 ≤ b79 := Nat.le_trans z29 (Nat.le_of_eq g79.symm)
      have f83 := f26.ext E79
      have f84 := f27.ext E79
      have f85 := f28.ext E79
      have f86 := F24.ext E79
      have z87 := Nat.le_trans z29 E79.1
      have F88 : Fld Z h79 b79 "com/example/tidegraph/tidegraph/graph/User" "id" "J" (.long (0 : Int64)) := D79 (Or.inr (hw _ (List.mem_of_getElem? (i := 11) rfl))) (ty := .long) (by decide)
      have F89 : Fld Z h79 b79 "com/example/tidegraph/tidegraph/graph/User" "name" "[B" .null := D79 (Or.inr (hw _ (List.mem_of_getElem? (i := 13) rfl))) (ty := (.array .byte)) (by decide)
      refine Go.via (S' := T79.setTop (mkF m 77 #[.val (.long q1), .second, .val (.long q2), .second, .val (.int p3), .val (.int p4), .val (.int p5), .val (.ref b1), .val (.int ((p3 &&& (2147483647 : Int32)) % (5 : Int32))), .unset, .unset] [(.ref b79)])) (fun _ k => st79 _ k) ?_
      refine Go.via (S' := T79.setTop (mkF m 78 #[.val (.long q1), .second, .val (.long q2), .second, .val (.int p3), .val (.int p4), .val (.int p5), .val (.ref b1), .val (.int ((p3 &&& (2147483647 : Int32)) % (5 : Int32))), .unset, .unset] [(.ref b79), (.ref b79)])) (fun _ k => XS.dup X79.here hx rfl (hb hby at_77) rfl rfl k) ?_
      refine Go.via (S' := T79.setTop (mkF m 79 #[.val (.long q1), .second, .val (.long q2), .second, .val (.int p3), .val (.int p4), .val (.int p5), .val (.ref b1), .val (.int ((p3 &&& (2147483647 : Int32)) % (5 : Int32))), .unset, .unset] [(.long q1), (.ref b79), (.ref b79)])) (fun _ k => XS.lloadN X79.here hx rfl (hb hby at_78) rfl k) ?_
      refine Go.via (S' := T79.setTop (mkF m 80 #[.val (.long q1), .second, .val (.long q2), .second, .val (.int p3), .val (.int p4), .val (.int p5), .val (.ref b1), .val (.int ((p3 &&& (2147483647 : Int32)) % (5 : Int32))), .unset, .unset] [(.int (1 : Int32)), (.long q1), (.ref b79), (.ref b79)])) (fun _ k => XS.iconst X79.here hx rfl (hb hby at_79) k) ?_
      obtain ⟨T90, h90, k90, X90, e90, E90, A90, st90⟩ := newP X79 hx hZ (hw _ (List.mem_of_getElem? (i := 3) rfl)) e79 (g := (mkF m 80 #[.val (.long q1), .second, .val (.long q2), .second, .val (.int p3), .val (.int p4), .val (.int p5), .val (.ref b1), .val (.int ((p3 &&& (2147483647 : Int32)) % (5 : Int32))), .unset, .unset] [(.int (1 : Int32)), (.long q1), (.ref b79), (.ref b79)])) rfl (hb hby at_80) rfl (by decide) (cap := 1) (by decide) (by decide) (by decide) (by decide)
      obtain ⟨b90, g90⟩ : ∃ z, z = h79.size := ⟨_, rfl⟩
      rw [← g90] at A90 st90
      have ne91 : b1 ≠ b90 := Nat.ne_of_lt (Nat.lt_of_lt_of_le f84.lt (Nat.le_of_eq g90.symm))
      have ne92 : b7 ≠ b90 := Nat.ne_of_lt (Nat.lt_of_lt_of_le f85.lt (Nat.le_of_eq g90.symm))
      have ne93 : b79 ≠ b90 := Nat.ne_of_lt (Nat.lt_of_lt_of_le A79.lt (Nat.le_of_eq g90.symm))
      have g94 : n0 ≤ b90 := Nat.le_trans z87 (Nat.le_of_eq g90.symm)
      have f95 := f83.ext E90
      have f96 := f84.ext E90
      have f97 := f85.ext E90
      have f98 := f86.ext E90
      have f99 := A79.ext E90
      have f100 := F88.ext E90
      have f101 := F89.ext E90
      have z102 := Nat.le_trans z87 E90.1
      have V103 : Arv Z h90 b90 k90 .byte (1 : Int32) [(.int (0 : Int32))] (.int (0 : Int32)) := (Arv.new A90 (by decide)).pad (pad_rep [] (.int (0 : Int32)) 1)
      refine Go.via (S' := T90.setTop (mkF m 82 #[.val (.long q1), .second, .val (.long q2), .second, .val (.int p3), .val (.int p4), .val (.int p5), .val (.ref b1), .val (.int ((p3 &&& (2147483647 : Int32)) % (5 : Int32))), .unset, .unset] [(.ref b90), (.long q1), (.ref b79), (.ref b79)])) (fun _ k => st90 _ k) ?_
      refine Go.via (S' := T90.setTop (mkF m 83 #[.val (.long q1), .second, .val (.long q2), .second, .val (.int p3), .val (.int p4), .val (.int p5), .val (.ref b1), .val (.int ((p3 &&& (2147483647 : Int32)) % (5 : Int32))), .unset, .unset] [(.ref b90), (.ref b90), (.long q1), (.ref b79), (.ref b79)])) (fun _ k => XS.dup X90.here hx rfl (hb hby at_82) rfl rfl k) ?_
      refine Go.via (S' := T90.setTop (mkF m 84 #[.val (.long q1), .second, .val (.long q2), .second, .val (.int p3), .val (.int p4), .val (.int p5), .val (.ref b1), .val (.int ((p3 &&& (2147483647 : Int32)) % (5 : Int32))), .unset, .unset] [(.int (0 : Int32)), (.ref b90), (.ref b90), (.long q1), (.ref b79), (.ref b79)])) (fun _ k => XS.iconst X90.here hx rfl (hb hby at_83) k) ?_
      refine Go.via (S' := T90.setTop (mkF m 86 #[.val (.long q1), .second, .val (.long q2), .second, .val (.int p3), .val (.int p4), .val (.int p5), .val (.ref b1), .val (.int ((p3 &&& (2147483647 : Int32)) % (5 : Int32))), .unset, .unset] [(.int p5), (.int (0 : Int32)), (.ref b90), (.ref b90), (.long q1), (.ref b79), (.ref b79)])) (fun _ k => XS.iload X90.here hx rfl (hb hby at_84) rfl k) ?_
      refine Go.via (S' := T90.setTop (mkF m 87 #[.val (.long q1), .second, .val (.long q2), .second, .val (.int p3), .val (.int p4), .val (.int p5), .val (.ref b1), .val (.int ((p3 &&& (2147483647 : Int32)) % (5 : Int32))), .unset, .unset] [(.int (p5.toInt8.toInt32)), (.int (0 : Int32)), (.ref b90), (.ref b90), (.long q1), (.ref b79), (.ref b79)])) (fun _ k => XS.i2b X90.here hx rfl (hb hby at_86) rfl k) ?_
      obtain ⟨c104, Ar104, q104, S104, M104, H104, G104⟩ := id V103
      obtain ⟨T104, h104, X104, e104, W104, st104⟩ := stB X90 hx hZ e90 Ar104 (j := (0 : Int32)) (inb_of S104 ⟨by decide, by decide⟩) (g := (mkF m 87 #[.val (.long q1), .second, .val (.long q2), .second, .val (.int p3), .val (.int p4), .val (.int p5), .val (.ref b1), .val (.int ((p3 &&& (2147483647 : Int32)) % (5 : Int32))), .unset, .unset] [(.int (p5.toInt8.toInt32)), (.int (0 : Int32)), (.ref b90), (.ref b90), (.long q1), (.ref b79), (.ref b79)])) rfl rfl (hb hby at_87)
      have V105 : Arv Z h104 b90 k90 .byte (1 : Int32) [(.int (nar .byte (p5.toInt8.toInt32)))] (.int (0 : Int32)) := Arv.set Ar104 q104 S104 M104 H104 G104 (fits_nar_byte _) W104 0 rfl (Nat.le_of_ble_eq_true rfl)
      have N106 := Fr.snoc X104 N25 g94
      have f107 := f95.wr W104 g94
      have f108 := f96.wr W104
      have f109 := f97.other W104 ne92
      have f110 := f98.other W104 (Or.inl ne91)
      have f111 := f99.wr W104
      have f112 := f100.other W104 (Or.inl ne93)
      have f113 := f101.other W104 (Or.inl ne93)
      have z114 := Nat.le_trans z102 (Keep.of_wr W104).1
      refine Go.via (S' := T104.setTop (mkF m 88 #[.val (.long q1), .second, .val (.long q2), .second, .val (.int p3), .val (.int p4), .val (.int p5), .val (.ref b1), .val (.int ((p3 &&& (2147483647 : Int32)) % (5 : Int32))), .unset, .unset] [(.ref b90), (.long q1), (.ref b79), (.ref b79)])) (fun _ k => st104 _ k) ?_
      obtain ⟨_, _, ⟨T115, L115, k115, n115⟩, -, X115, ⟨Lc115, hQ115, l115, y115, z115⟩, st115⟩ := X104.specialBack hx (y := (⟨"com/example/tidegraph/tidegraph/graph/User", "<init>", "(J[B)V"⟩ : MethodName)) rfl hown (mvT hZ (hw _ (List.mem_of_getElem? (i := 4) rfl))) (mvT hZ (hw _ (List.mem_of_getElem? (i := 5) rfl))) (mvT hZ (hw _ (List.mem_of_getElem? (i := 6) rfl))) (by decide) (backOf (W := 1) (rm1 l Z a0 hw [] b79 q1 b90 h104 n0 z114 f111 f112 f113 g82) hZ (hw _ (List.mem_of_getElem? (i := 6) rfl)) (hw _ (List.mem_of_getElem? (i := 2) rfl)) (by decide) (by decide)) (g := (mkF m 88 #[.val (.long q1), .second, .val (.long q2), .second, .val (.int p3), .val (.int p4), .val (.int p5), .val (.ref b1), .val (.int ((p3 &&& (2147483647 : Int32)) % (5 : Int32))), .unset, .unset] [(.ref b90), (.long q1), (.ref b79), (.ref b79)])) rfl (by rw [hml]; rfl) (Steps.refl _) (a := b79) (argsL := [(.long q1), (.ref b90)]) (rest := [(.ref b79)]) (lenOf pd_2 rfl) rfl (by show 2 * 0 + _ ≤ _; exact Nat.le_of_eq rfl) (hb hby at_88) (fun _ _ => ⟨rfl, e104, (by decide : 4 + 0 ≤ _), (by decide : 10 + 0 ≤ _)⟩)
      dsimp only [Pt.U, Pt.locs, Pt.cells, Pt.slots] at X115 l115 y115 z115 st115 hQ115
      subst l115 y115 z115
      obtain ⟨rfl, N115q, K115, F115⟩ := hQ115
      have N116 := Fr.app N106 N115q
      have f117 := f107.keep K115 (allS g82 all0)
      have f118 := f108.keep K115
      have f119 := f109.keep K115 (ninS ne81 nin0)
      have f120 := f110.keep K115 (ninS ne80 nin0)
      have f121 := f111.keep K115
      have f122 := V105.keep K115 (ninS (Ne.symm ne93) nin0)
      have z123 := Nat.le_trans z114 K115.1
      refine Go.via (S' := T115.setTop (mkF m 91 #[.val (.long q1), .second, .val (.long q2), .second, .val (.int p3), .val (.int p4), .val (.int p5), .val (.ref b1), .val (.int ((p3 &&& (2147483647 : Int32)) % (5 : Int32))), .unset, .unset] [(.ref b79)])) (fun _ k => st115.trans k) ?_
      refine Go.via (S' := T115.setTop (mkF m 93 #[.val (.long q1), .second, .val (.long q2), .second, .val (.int p3), .val (.int p4), .val (.int p5), .val (.ref b1), .val (.int ((p3 &&& (2147483647 : Int32)) % (5 : Int32))), .val (.ref b79), .unset] [])) (fun _ k => XS.astore X115.here hx rfl (hb hby at_91) rfl rfl (l' := #[.val (.long q1), .second, .val (.long q2), .second, .val (.int p3), .val (.int p4), .val (.int p5), .val (.ref b1), .val (.int ((p3 &&& (2147483647 : Int32)) % (5 : Int32))), .val (.ref b79), .unset]) rfl k) ?_
      refine Go.via (S' := T115.setTop (mkF m 94 #[.val (.long q1), .second, .val (.long q2), .second, .val (.int p3), .val (.int p4), .val (.int p5), .val (.ref b1), .val (.int ((p3 &&& (2147483647 : Int32)) % (5 : Int32))), .val (.ref b79), .unset] [(.int (1 : Int32))])) (fun _ k => XS.iconst X115.here hx rfl (hb hby at_93) k) ?_
      refine Go.via (S' := T115.setTop (mkF m 96 #[.val (.long q1), .second, .val (.long q2), .second, .val (.int p3), .val (.int p4), .val (.int p5), .val (.ref b1), .val (.int ((p3 &&& (2147483647 : Int32)) % (5 : Int32))), .val (.ref b79), .val (.int (1 : Int32))] [])) (fun _ k => XS.istore X115.here hx rfl (hb hby at_94) rfl (l' := #[.val (.long q1), .second, .val (.long q2), .second, .val (.int p3), .val (.int p4), .val (.int p5), .val (.ref b1), .val (.int ((p3 &&& (2147483647 : Int32)) % (5 : Int32))), .val (.ref b79), .val (.int (1 : Int32))]) rfl k) ?_
      refine Go.via (S' := T115.setTop (mkF m 139 #[.val (.long q1), .second, .val (.long q2), .second, .val (.int p3), .val (.int p4), .val (.int p5), .val (.ref b1), .val (.int ((p3 &&& (2147483647 : Int32)) % (5 : Int32))), .val (.ref b79), .val (.int (1 : Int32))] [])) (fun _ k => XS.goto X115.here hx rfl (pc0 := 96) (pc' := 139) rfl (hb hby at_96) (by decide) (by decide) k) ?_
      refine Go.via (S' := T115.setTop (mkF m 141 #[.val (.long q1), .second, .val (.long q2), .second, .val (.int p3), .val (.int p4), .val (.int p5), .val (.ref b1), .val (.int ((p3 &&& (2147483647 : Int32)) % (5 : Int32))), .val (.ref b79), .val (.int (1 : Int32))] [(.ref b1)])) (fun _ k => XS.aload X115.here hx rfl (hb hby at_139) rfl rfl k) ?_
      refine Go.via (S' := T115.setTop (mkF m 143 #[.val (.long q1), .second, .val (.long q2), .second, .val (.int p3), .val (.int p4), .val (.int p5), .val (.ref b1), .val (.int ((p3 &&& (2147483647 : Int32)) % (5 : Int32))), .val (.ref b79), .val (.int (1 : Int32))] [(.ref b79), (.ref b1)])) (fun _ k => XS.aload X115.here hx rfl (hb hby at_141) rfl rfl k) ?_
      obtain ⟨cq124, kq124, q124a, q124b, q124c⟩ := isOf hZ rfl f118
      obtain ⟨_, _, ⟨T124, L124, k124, n124⟩, -, X124, ⟨Lc124, hQ124, l124, y124, z124⟩, st124⟩ := X115.virtualBack hx (y := (⟨"com/example/tidegraph/tidegraph/graph/User", "equals", "(Ljava/lang/Object;)Z"⟩ : MethodName)) (z := (⟨"com/example/tidegraph/tidegraph/graph/User", "equals", "(Ljava/lang/Object;)Z"⟩ : MethodName)) hown (mvT hZ (hw _ (List.mem_of_getElem? (i := 15) rfl))) (mvT hZ (hw _ (List.mem_of_getElem? (i := 16) rfl))) (notFace_of_selects (args := #[]) (mvT hZ (hw _ (List.mem_of_getElem? (i := 18) rfl)))) (mvT hZ (hw _ (List.mem_of_getElem? (i := 18) rfl))) (mvT hZ (hw _ (List.mem_of_getElem? (i := 17) rfl))) (by decide) (backOf (W := 0) (rm3 l Z a0 hw [] b1 b79 q1 q1 T115.heap n0 z123 f120 f121 F115) hZ (hw _ (List.mem_of_getElem? (i := 19) rfl)) (hw _ (List.mem_of_getElem? (i := 2) rfl)) (by decide) (by decide)) q124a q124c (g := (mkF m 143 #[.val (.long q1), .second, .val (.long q2), .second, .val (.int p3), .val (.int p4), .val (.int p5), .val (.ref b1), .val (.int ((p3 &&& (2147483647 : Int32)) % (5 : Int32))), .val (.ref b79), .val (.int (1 : Int32))] [(.ref b79), (.ref b1)])) rfl (by rw [hml]; rfl) (Steps.refl _) (argsL := [(.ref b79)]) (rest := []) (lenOf pd_3 rfl) rfl (by show 2 * 0 + _ ≤ _; exact Nat.le_of_eq rfl) (hb hby at_143) (fun _ _ => ⟨rfl, rfl, (by decide : 4 + 0 ≤ _), (by decide : 10 + 0 ≤ _)⟩)
      dsimp only [Pt.U, Pt.locs, Pt.cells, Pt.slots] at X124 l124 y124 z124 st124 hQ124
      subst l124 y124 z124
      obtain ⟨r124, rfl, N124q, e124, hr124⟩ := hQ124
      have N125 := Fr.app N116 N124q
      refine Go.via (S' := T124.setTop (mkF m 146 #[.val (.long q1), .second, .val (.long q2), .second, .val (.int p3), .val (.int p4), .val (.int p5), .val (.ref b1), .val (.int ((p3 &&& (2147483647 : Int32)) % (5 : Int32))), .val (.ref b79), .val (.int (1 : Int32))] [(.int r124)])) (fun _ k => st124.trans k) ?_
      rcases hr124 with ⟨rfl, hB⟩ | ⟨rfl, hB⟩
      · refine Go.via (S' := T124.setTop (mkF m 148 #[.val (.long q1), .second, .val (.long q2), .second, .val (.int p3), .val (.int p4), .val (.int p5), .val (.ref b1), .val (.int ((p3 &&& (2147483647 : Int32)) % (5 : Int32))), .val (.ref b79), .val (.int (1 : Int32))] [(.int (1 : Int32)), (.int (1 : Int32))])) (fun _ k => XS.iload X124.here hx rfl (hb hby at_146) rfl k) ?_
        refine Go.via (S' := T124.setTop (mkF m 151 #[.val (.long q1), .second, .val (.long q2), .second, .val (.int p3), .val (.int p4), .val (.int p5), .val (.ref b1), .val (.int ((p3 &&& (2147483647 : Int32)) % (5 : Int32))), .val (.ref b79), .val (.int (1 : Int32))] [])) (fun _ k => XS.icmpNo X124.here hx rfl (hb hby at_148) rfl (teq (by decide)).2 k) ?_
        refine Go.via (S' := T124.setTop (mkF m 152 #[.val (.long q1), .second, .val (.long q2), .second, .val (.int p3), .val (.int p4), .val (.int p5), .val (.ref b1), .val (.int ((p3 &&& (2147483647 : Int32)) % (5 : Int32))), .val (.ref b79), .val (.int (1 : Int32))] [(.int (1 : Int32))])) (fun _ k => XS.iconst X124.here hx rfl (hb hby at_151) k) ?_
        refine Go.via (S' := T124.setTop (mkF m 156 #[.val (.long q1), .second, .val (.long q2), .second, .val (.int p3), .val (.int p4), .val (.int p5), .val (.ref b1), .val (.int ((p3 &&& (2147483647 : Int32)) % (5 : Int32))), .val (.ref b79), .val (.int (1 : Int32))] [(.int (1 : Int32))])) (fun _ k => XS.goto X124.here hx rfl (pc0 := 152) (pc' := 156) rfl (hb hby at_152) (by decide) (by decide) k) ?_
        exact Go.retB X124 hx (BodyLoose.notSynchronized Bd) Bd.returns (hb hby at_156) rfl (by rw [e124]; exact ⟨rfl, N125⟩) (by decide) (by decide)
      · refine Go.via (S' := T124.setTop (mkF m 148 #[.val (.long q1), .second, .val (.long q2), .second, .val (.int p3), .val (.int p4), .val (.int p5), .val (.ref b1), .val (.int ((p3 &&& (2147483647 : Int32)) % (5 : Int32))), .val (.ref b79), .val (.int (1 : Int32))] [(.int (1 : Int32)), (.int (0 : Int32))])) (fun _ k => XS.iload X124.here hx rfl (hb hby at_146) rfl k) ?_
        refine Go.via (S' := T124.setTop (mkF m 155 #[.val (.long q1), .second, .val (.long q2), .second, .val (.int p3), .val (.int p4), .val (.int p5), .val (.ref b1), .val (.int ((p3 &&& (2147483647 : Int32)) % (5 : Int32))), .val (.ref b79), .val (.int (1 : Int32))] [])) (fun _ k => XS.icmpYes X124.here hx rfl (pc0 := 148) (pc' := 155) rfl (hb hby at_148) rfl (feq (by decide)).2 (by decide) (by decide) k) ?_
        exfalso
        first | exact hB rfl | exact hc55 hB.symm | exact hB hc55.symm
    · refine Go.via (S' := T24.setTop (mkF m 99 #[.val (.long q1), .second, .val (.long q2), .second, .val (.int p3), .val (.int p4), .val (.int p5), .val (.ref b1), .val (.int ((p3 &&& (2147483647 : Int32)) % (5 : Int32))), .unset, .unset] [])) (fun _ k => XS.icmpYes X24.here hx rfl (pc0 := 71) (pc' := 99) rfl (hb hby at_71) rfl (feq hc71).2 (by decide) (by decide) k) ?_
      refine Go.via (S' := T24.setTop (mkF m 101 #[.val (.long q1), .second, .val (.long q2), .second, .val (.int p3), .val (.int p4), .val (.int p5), .val (.ref b1), .val (.int ((p3 &&& (2147483647 : Int32)) % (5 : Int32))), .unset, .unset] [(.int ((p3 &&& (2147483647 : Int32)) % (5 : Int32)))])) (fun _ k => XS.iload X24.here hx rfl (hb hby at_99) rfl k) ?_
      refine Go.via (S' := T24.setTop (mkF m 102 #[.val (.long q1), .second, .val (.long q2), .second, .val (.int p3), .val (.int p4), .val (.int p5), .val (.ref b1), .val (.int ((p3 &&& (2147483647 : Int32)) % (5 : Int32))), .unset, .unset] [(.int (2 : Int32)), (.int ((p3 &&& (2147483647 : Int32)) % (5 : Int32)))])) (fun _ k => XS.iconst X24.here hx rfl (hb hby at_101) k) ?_
      rcases Decidable.em (((p3 &&& (2147483647 : Int32)) % (5 : Int32)) = (2 : Int32)) with hc102 | hc102
      · refine Go.via (S' := T24.setTop (mkF m 105 #[.val (.long q1), .second, .val (.long q2), .second, .val (.int p3), .val (.int p4), .val (.int p5), .val (.ref b1), .val (.int ((p3 &&& (2147483647 : Int32)) % (5 : Int32))), .unset, .unset] [])) (fun _ k => XS.icmpNo X24.here hx rfl (hb hby at_102) rfl (teq hc102).2 k) ?_
        refine Go.via (S' := T24.setTop (mkF m 107 #[.val (.long q1), .second, .val (.long q2), .second, .val (.int p3), .val (.int p4), .val (.int p5), .val (.ref b1), .val (.int ((p3 &&& (2147483647 : Int32)) % (5 : Int32))), .unset, .unset] [(.ref b1)])) (fun _ k => XS.aload X24.here hx rfl (hb hby at_105) rfl rfl k) ?_
        refine Go.via (S' := T24.setTop (mkF m 109 #[.val (.long q1), .second, .val (.long q2), .second, .val (.int p3), .val (.int p4), .val (.int p5), .val (.ref b1), .val (.int ((p3 &&& (2147483647 : Int32)) % (5 : Int32))), .val (.ref b1), .unset] [])) (fun _ k => XS.astore X24.here hx rfl (hb hby at_107) rfl rfl (l' := #[.val (.long q1), .second, .val (.long q2), .second, .val (.int p3), .val (.int p4), .val (.int p5), .val (.ref b1), .val (.int ((p3 &&& (2147483647 : Int32)) % (5 : Int32))), .val (.ref b1), .unset]) rfl k) ?_
        refine Go.via (S' := T24.setTop (mkF m 110 #[.val (.long q1), .second, .val (.long q2), .second, .val (.int p3), .val (.int p4), .val (.int p5), .val (.ref b1), .val (.int ((p3 &&& (2147483647 : Int32)) % (5 : Int32))), .val (.ref b1), .unset] [(.int (1 : Int32))])) (fun _ k => XS.iconst X24.here hx rfl (hb hby at_109) k) ?_
        refine Go.via (S' := T24.setTop (mkF m 112 #[.val (.long q1), .second, .val (.long q2), .second, .val (.int p3), .val (.int p4), .val (.int p5), .val (.ref b1), .val (.int ((p3 &&& (2147483647 : Int32)) % (5 : Int32))), .val (.ref b1), .val (.int (1 : Int32))] [])) (fun _ k => XS.istore X24.here hx rfl (hb hby at_110) rfl (l' := #[.val (.long q1), .second, .val (.long q2), .second, .val (.int p3), .val (.int p4), .val (.int p5), .val (.ref b1), .val (.int ((p3 &&& (2147483647 : Int32)) % (5 : Int32))), .val (.ref b1), .val (.int (1 : Int32))]) rfl k) ?_
        refine Go.via (S' := T24.setTop (mkF m 139 #[.val (.long q1), .second, .val (.long q2), .second, .val (.int p3), .val (.int p4), .val (.int p5), .val (.ref b1), .val (.int ((p3 &&& (2147483647 : Int32)) % (5 : Int32))), .val (.ref b1), .val (.int (1 : Int32))] [])) (fun _ k => XS.goto X24.here hx rfl (pc0 := 112) (pc' := 139) rfl (hb hby at_112) (by decide) (by decide) k) ?_
        refine Go.via (S' := T24.setTop (mkF m 141 #[.val (.long q1), .second, .val (.long q2), .second, .val (.int p3), .val (.int p4), .val (.int p5), .val (.ref b1), .val (.int ((p3 &&& (2147483647 : Int32)) % (5 : Int32))), .val (.ref b1), .val (.int (1 : Int32))] [(.ref b1)])) (fun _ k => XS.aload X24.here hx rfl (hb hby at_139) rfl rfl k) ?_
        refine Go.via (S' := T24.setTop (mkF m 143 #[.val (.long q1), .second, .val (.long q2), .second, .val (.int p3), .val (.int p4), .val (.int p5), .val (.ref b1), .val (.int ((p3 &&& (2147483647 : Int32)) % (5 : Int32))), .val (.ref b1), .val (.int (1 : Int32))] [(.ref b1), (.ref b1)])) (fun _ k => XS.aload X24.here hx rfl (hb hby at_141) rfl rfl k) ?_
        obtain ⟨cq126, kq126, q126a, q126b, q126c⟩ := isOf hZ rfl f27
        obtain ⟨_, _, ⟨T126, L126, k126, n126⟩, -, X126, ⟨Lc126, hQ126, l126, y126, z126⟩, st126⟩ := X24.virtualBack hx (y := (⟨"com/example/tidegraph/tidegraph/graph/User", "equals", "(Ljava/lang/Object;)Z"⟩ : MethodName)) (z := (⟨"com/example/tidegraph/tidegraph/graph/User", "equals", "(Ljava/lang/Object;)Z"⟩ : MethodName)) hown (mvT hZ (hw _ (List.mem_of_getElem? (i := 15) rfl))) (mvT hZ (hw _ (List.mem_of_getElem? (i := 16) rfl))) (notFace_of_selects (args := #[]) (mvT hZ (hw _ (List.mem_of_getElem? (i := 18) rfl)))) (mvT hZ (hw _ (List.mem_of_getElem? (i := 18) rfl))) (mvT hZ (hw _ (List.mem_of_getElem? (i := 17) rfl))) (by decide) (backOf (W := 0) (rm3 l Z a0 hw [] b1 b1 q1 q1 T24.heap n0 z29 F24 f27 F24) hZ (hw _ (List.mem_of_getElem? (i := 19) rfl)) (hw _ (List.mem_of_getElem? (i := 2) rfl)) (by decide) (by decide)) q126a q126c (g := (mkF m 143 #[.val (.long q1), .second, .val (.long q2), .second, .val (.int p3), .val (.int p4), .val (.int p5), .val (.ref b1), .val (.int ((p3 &&& (2147483647 : Int32)) % (5 : Int32))), .val (.ref b1), .val (.int (1 : Int32))] [(.ref b1), (.ref b1)])) rfl (by rw [hml]; rfl) (Steps.refl _) (argsL := [(.ref b1)]) (rest := []) (lenOf pd_3 rfl) rfl (by show 2 * 0 + _ ≤ _; exact Nat.le_of_eq rfl) (hb hby at_143) (fun _ _ => ⟨rfl, rfl, (by decide : 2 + 0 ≤ _), (by decide : 5 + 0 ≤ _)⟩)
        dsimp only [Pt.U, Pt.locs, Pt.cells, Pt.slots] at X126 l126 y126 z126 st126 hQ126
        subst l126 y126 z126
        obtain ⟨r126, rfl, N126q, e126, hr126⟩ := hQ126
        have N127 := Fr.app N25 N126q
        refine Go.via (S' := T126.setTop (mkF m 146 #[.val (.long q1), .second, .val (.long q2), .second, .val (.int p3), .val (.int p4), .val (.int p5), .val (.ref b1), .val (.int ((p3 &&& (2147483647 : Int32)) % (5 : Int32))), .val (.ref b1), .val (.int (1 : Int32))] [(.int r126)])) (fun _ k => st126.trans k) ?_
        rcases hr126 with ⟨rfl, hB⟩ | ⟨rfl, hB⟩
        · refine Go.via (S' := T126.setTop (mkF m 148 #[.val (.long q1), .second, .val (.long q2), .second, .val (.int p3), .val (.int p4), .val (.int p5), .val (.ref b1), .val (.int ((p3 &&& (2147483647 : Int32)) % (5 : Int32))), .val (.ref b1), .val (.int (1 : Int32))] [(.int (1 : Int32)), (.int (1 : Int32))])) (fun _ k => XS.iload X126.here hx rfl (hb hby at_146) rfl k) ?_
          refine Go.via (S' := T126.setTop (mkF m 151 #[.val (.long q1), .second, .val (.long q2), .second, .val (.int p3), .val (.int p4), .val (.int p5), .val (.ref b1), .val (.int ((p3 &&& (2147483647 : Int32)) % (5 : Int32))), .val (.ref b1), .val (.int (1 : Int32))] [])) (fun _ k => XS.icmpNo X126.here hx rfl (hb hby at_148) rfl (teq (by decide)).2 k) ?_
          refine Go.via (S' := T126.setTop (mkF m 152 #[.val (.long q1), .second, .val (.long q2), .second, .val (.int p3), .val (.int p4), .val (.int p5), .val (.ref b1), .val (.int ((p3 &&& (2147483647 : Int32)) % (5 : Int32))), .val (.ref b1), .val (.int (1 : Int32))] [(.int (1 : Int32))])) (fun _ k => XS.iconst X126.here hx rfl (hb hby at_151) k) ?_
          refine Go.via (S' := T126.setTop (mkF m 156 #[.val (.long q1), .second, .val (.long q2), .second, .val (.int p3), .val (.int p4), .val (.int p5), .val (.ref b1), .val (.int ((p3 &&& (2147483647 : Int32)) % (5 : Int32))), .val (.ref b1), .val (.int (1 : Int32))] [(.int (1 : Int32))])) (fun _ k => XS.goto X126.here hx rfl (pc0 := 152) (pc' := 156) rfl (hb hby at_152) (by decide) (by decide) k) ?_
          exact Go.retB X126 hx (BodyLoose.notSynchronized Bd) Bd.returns (hb hby at_156) rfl (by rw [e126]; exact ⟨rfl, N127⟩) (by decide) (by decide)
        · refine Go.via (S' := T126.setTop (mkF m 148 #[.val (.long q1), .second, .val (.long q2), .second, .val (.int p3), .val (.int p4), .val (.int p5), .val (.ref b1), .val (.int ((p3 &&& (2147483647 : Int32)) % (5 : Int32))), .val (.ref b1), .val (.int (1 : Int32))] [(.int (1 : Int32)), (.int (0 : Int32))])) (fun _ k => XS.iload X126.here hx rfl (hb hby at_146) rfl k) ?_
          refine Go.via (S' := T126.setTop (mkF m 155 #[.val (.long q1), .second, .val (.long q2), .second, .val (.int p3), .val (.int p4), .val (.int p5), .val (.ref b1), .val (.int ((p3 &&& (2147483647 : Int32)) % (5 : Int32))), .val (.ref b1), .val (.int (1 : Int32))] [])) (fun _ k => XS.icmpYes X126.here hx rfl (pc0 := 148) (pc' := 155) rfl (hb hby at_148) rfl (feq (by decide)).2 (by decide) (by decide) k) ?_
          exfalso
          first | exact hB rfl | exact hc55 hB.symm | exact hB hc55.symm
      · refine Go.via (S' := T24.setTop (mkF m 115 #[.val (.long q1), .second, .val (.long q2), .second, .val (.int p3), .val (.int p4), .val (.int p5), .val (.ref b1), .val (.int ((p3 &&& (2147483647 : Int32)) % (5 : Int32))), .unset, .unset] [])) (fun _ k => XS.icmpYes X24.here hx rfl (pc0 := 102) (pc' := 115) rfl (hb hby at_102) rfl (feq hc102).2 (by decide) (by decide) k) ?_
        refine Go.via (S' := T24.setTop (mkF m 117 #[.val (.long q1), .second, .val (.long q2), .second, .val (.int p3), .val (.int p4), .val (.int p5), .val (.ref b1), .val (.int ((p3 &&& (2147483647 : Int32)) % (5 : Int32))), .unset, .unset] [(.int ((p3 &&& (2147483647 : Int32)) % (5 : Int32)))])) (fun _ k => XS.iload X24.here hx rfl (hb hby at_115) rfl k) ?_
        refine Go.via (S' := T24.setTop (mkF m 118 #[.val (.long q1), .second, .val (.long q2), .second, .val (.int p3), .val (.int p4), .val (.int p5), .val (.ref b1), .val (.int ((p3 &&& (2147483647 : Int32)) % (5 : Int32))), .unset, .unset] [(.int (3 : Int32)), (.int ((p3 &&& (2147483647 : Int32)) % (5 : Int32)))])) (fun _ k => XS.iconst X24.here hx rfl (hb hby at_117) k) ?_
        rcases Decidable.em (((p3 &&& (2147483647 : Int32)) % (5 : Int32)) = (3 : Int32)) with hc118 | hc118
        · refine Go.via (S' := T24.setTop (mkF m 121 #[.val (.long q1), .second, .val (.long q2), .second, .val (.int p3), .val (.int p4), .val (.int p5), .val (.ref b1), .val (.int ((p3 &&& (2147483647 : Int32)) % (5 : Int32))), .unset, .unset] [])) (fun _ k => XS.icmpNo X24.here hx rfl (hb hby at_118) rfl (teq hc118).2 k) ?_
          refine Go.via (S' := T24.setTop (mkF m 122 #[.val (.long q1), .second, .val (.long q2), .second, .val (.int p3), .val (.int p4), .val (.int p5), .val (.ref b1), .val (.int ((p3 &&& (2147483647 : Int32)) % (5 : Int32))), .unset, .unset] [.null])) (fun _ k => XS.aconstNull X24.here hx rfl (hb hby at_121) k) ?_
          refine Go.via (S' := T24.setTop (mkF m 124 #[.val (.long q1), .second, .val (.long q2), .second, .val (.int p3), .val (.int p4), .val (.int p5), .val (.ref b1), .val (.int ((p3 &&& (2147483647 : Int32)) % (5 : Int32))), .val .null, .unset] [])) (fun _ k => XS.astore X24.here hx rfl (hb hby at_122) rfl rfl (l' := #[.val (.long q1), .second, .val (.long q2), .second, .val (.int p3), .val (.int p4), .val (.int p5), .val (.ref b1), .val (.int ((p3 &&& (2147483647 : Int32)) % (5 : Int32))), .val .null, .unset]) rfl k) ?_
          refine Go.via (S' := T24.setTop (mkF m 125 #[.val (.long q1), .second, .val (.long q2), .second, .val (.int p3), .val (.int p4), .val (.int p5), .val (.ref b1), .val (.int ((p3 &&& (2147483647 : Int32)) % (5 : Int32))), .val .null, .unset] [(.int (0 : Int32))])) (fun _ k => XS.iconst X24.here hx rfl (hb hby at_124) k) ?_
          refine Go.via (S' := T24.setTop (mkF m 127 #[.val (.long q1), .second, .val (.long q2), .second, .val (.int p3), .val (.int p4), .val (.int p5), .val (.ref b1), .val (.int ((p3 &&& (2147483647 : Int32)) % (5 : Int32))), .val .null, .val (.int (0 : Int32))] [])) (fun _ k => XS.istore X24.here hx rfl (hb hby at_125) rfl (l' := #[.val (.long q1), .second, .val (.long q2), .second, .val (.int p3), .val (.int p4), .val (.int p5), .val (.ref b1), .val (.int ((p3 &&& (2147483647 : Int32)) % (5 : Int32))), .val .null, .val (.int (0 : Int32))]) rfl k) ?_
          refine Go.via (S' := T24.setTop (mkF m 139 #[.val (.long q1), .second, .val (.long q2), .second, .val (.int p3), .val (.int p4), .val (.int p5), .val (.ref b1), .val (.int ((p3 &&& (2147483647 : Int32)) % (5 : Int32))), .val .null, .val (.int (0 : Int32))] [])) (fun _ k => XS.goto X24.here hx rfl (pc0 := 127) (pc' := 139) rfl (hb hby at_127) (by decide) (by decide) k) ?_
          refine Go.via (S' := T24.setTop (mkF m 141 #[.val (.long q1), .second, .val (.long q2), .second, .val (.int p3), .val (.int p4), .val (.int p5), .val (.ref b1), .val (.int ((p3 &&& (2147483647 : Int32)) % (5 : Int32))), .val .null, .val (.int (0 : Int32))] [(.ref b1)])) (fun _ k => XS.aload X24.here hx rfl (hb hby at_139) rfl rfl k) ?_
          refine Go.via (S' := T24.setTop (mkF m 143 #[.val (.long q1), .second, .val (.long q2), .second, .val (.int p3), .val (.int p4), .val (.int p5), .val (.ref b1), .val (.int ((p3 &&& (2147483647 : Int32)) % (5 : Int32))), .val .null, .val (.int (0 : Int32))] [.null, (.ref b1)])) (fun _ k => XS.aload X24.here hx rfl (hb hby at_141) rfl rfl k) ?_
          obtain ⟨cq128, kq128, q128a, q128b, q128c⟩ := isOf hZ rfl f27
          obtain ⟨_, _, ⟨T128, L128, k128, n128⟩, -, X128, ⟨Lc128, hQ128, l128, y128, z128⟩, st128⟩ := X24.virtualBack hx (y := (⟨"com/example/tidegraph/tidegraph/graph/User", "equals", "(Ljava/lang/Object;)Z"⟩ : MethodName)) (z := (⟨"com/example/tidegraph/tidegraph/graph/User", "equals", "(Ljava/lang/Object;)Z"⟩ : MethodName)) hown (mvT hZ (hw _ (List.mem_of_getElem? (i := 15) rfl))) (mvT hZ (hw _ (List.mem_of_getElem? (i := 16) rfl))) (notFace_of_selects (args := #[]) (mvT hZ (hw _ (List.mem_of_getElem? (i := 18) rfl)))) (mvT hZ (hw _ (List.mem_of_getElem? (i := 18) rfl))) (mvT hZ (hw _ (List.mem_of_getElem? (i := 17) rfl))) (by decide) (backOf (W := 0) (rm3n l Z a0 hw [] b1 T24.heap n0 z29) hZ (hw _ (List.mem_of_getElem? (i := 19) rfl)) (hw _ (List.mem_of_getElem? (i := 2) rfl)) (by decide) (by decide)) q128a q128c (g := (mkF m 143 #[.val (.long q1), .second, .val (.long q2), .second, .val (.int p3), .val (.int p4), .val (.int p5), .val (.ref b1), .val (.int ((p3 &&& (2147483647 : Int32)) % (5 : Int32))), .val .null, .val (.int (0 : Int32))] [.null, (.ref b1)])) rfl (by rw [hml]; rfl) (Steps.refl _) (argsL := [.null]) (rest := []) (lenOf pd_3 rfl) rfl (by show 2 * 0 + _ ≤ _; exact Nat.le_of_eq rfl) (hb hby at_143) (fun _ _ => ⟨rfl, rfl, (by decide : 2 + 0 ≤ _), (by decide : 5 + 0 ≤ _)⟩)
          dsimp only [Pt.U, Pt.locs, Pt.cells, Pt.slots] at X128 l128 y128 z128 st128 hQ128
          subst l128 y128 z128
          obtain ⟨rfl, N128q, e128⟩ := hQ128
          have N129 := Fr.app N25 N128q
          refine Go.via (S' := T128.setTop (mkF m 146 #[.val (.long q1), .second, .val (.long q2), .second, .val (.int p3), .val (.int p4), .val (.int p5), .val (.ref b1), .val (.int ((p3 &&& (2147483647 : Int32)) % (5 : Int32))), .val .null, .val (.int (0 : Int32))] [(.int (0 : Int32))])) (fun _ k => st128.trans k) ?_
          refine Go.via (S' := T128.setTop (mkF m 148 #[.val (.long q1), .second, .val (.long q2), .second, .val (.int p3), .val (.int p4), .val (.int p5), .val (.ref b1), .val (.int ((p3 &&& (2147483647 : Int32)) % (5 : Int32))), .val .null, .val (.int (0 : Int32))] [(.int (0 : Int32)), (.int (0 : Int32))])) (fun _ k => XS.iload X128.here hx rfl (hb hby at_146) rfl k) ?_
          refine Go.via (S' := T128.setTop (mkF m 151 #[.val (.long q1), .second, .val (.long q2), .second, .val (.int p3), .val (.int p4), .val (.int p5), .val (.ref b1), .val (.int ((p3 &&& (2147483647 : Int32)) % (5 : Int32))), .val .null, .val (.int (0 : Int32))] [])) (fun _ k => XS.icmpNo X128.here hx rfl (hb hby at_148) rfl (teq (by decide)).2 k) ?_
          refine Go.via (S' := T128.setTop (mkF m 152 #[.val (.long q1), .second, .val (.long q2), .second, .val (.int p3), .val (.int p4), .val (.int p5), .val (.ref b1), .val (.int ((p3 &&& (2147483647 : Int32)) % (5 : Int32))), .val .null, .val (.int (0 : Int32))] [(.int (1 : Int32))])) (fun _ k => XS.iconst X128.here hx rfl (hb hby at_151) k) ?_
          refine Go.via (S' := T128.setTop (mkF m 156 #[.val (.long q1), .second, .val (.long q2), .second, .val (.int p3), .val (.int p4), .val (.int p5), .val (.ref b1), .val (.int ((p3 &&& (2147483647 : Int32)) % (5 : Int32))), .val .null, .val (.int (0 : Int32))] [(.int (1 : Int32))])) (fun _ k => XS.goto X128.here hx rfl (pc0 := 152) (pc' := 156) rfl (hb hby at_152) (by decide) (by decide) k) ?_
          exact Go.retB X128 hx (BodyLoose.notSynchronized Bd) Bd.returns (hb hby at_156) rfl (by rw [e128]; exact ⟨rfl, N129⟩) (by decide) (by decide)
        · refine Go.via (S' := T24.setTop (mkF m 130 #[.val (.long q1), .second, .val (.long q2), .second, .val (.int p3), .val (.int p4), .val (.int p5), .val (.ref b1), .val (.int ((p3 &&& (2147483647 : Int32)) % (5 : Int32))), .unset, .unset] [])) (fun _ k => XS.icmpYes X24.here hx rfl (pc0 := 118) (pc' := 130) rfl (hb hby at_118) rfl (feq hc118).2 (by decide) (by decide) k) ?_
          refine Go.via (S' := T24.setTop (mkF m 131 #[.val (.long q1), .second, .val (.long q2), .second, .val (.int p3), .val (.int p4), .val (.int p5), .val (.ref b1), .val (.int ((p3 &&& (2147483647 : Int32)) % (5 : Int32))), .unset, .unset] [(.long q1)])) (fun _ k => XS.lloadN X24.here hx rfl (hb hby at_130) rfl k) ?_
          obtain ⟨_, _, ⟨T130, L130, k130, n130⟩, -, X130, ⟨Lc130, hQ130, l130, y130, z130⟩, st130⟩ := Jvm.LawKit.callS X24 hx (y := (⟨"java/lang/Long", "valueOf", "(J)Ljava/lang/Long;"⟩ : MethodName)) hown (mvT hZ (hw _ (List.mem_of_getElem? (i := 22) rfl))) (mvT hZ (hw _ (List.mem_of_getElem? (i := 23) rfl))) (mvT hZ (hw _ (List.mem_of_getElem? (i := 24) rfl))) (mvT hZ (hw _ (List.mem_of_getElem? (i := 25) rfl))) (by decide) (backOf (W := 0) (rm4 l Z a0 hw [] q1 ca cc T24.heap n0 z29 f26 Sc Bc) hZ (hw _ (List.mem_of_getElem? (i := 25) rfl)) (hw _ (List.mem_of_getElem? (i := 24) rfl)) (by decide) (by decide)) (g := (mkF m 131 #[.val (.long q1), .second, .val (.long q2), .second, .val (.int p3), .val (.int p4), .val (.int p5), .val (.ref b1), .val (.int ((p3 &&& (2147483647 : Int32)) % (5 : Int32))), .unset, .unset] [(.long q1)])) rfl (by rw [hml]; rfl) (argsL := [(.long q1)]) (rest := []) (lenOf pd_4 rfl) rfl (by show 2 * 0 + _ ≤ _; exact Nat.le_of_eq rfl) (hb hby at_131) (fun _ _ => ⟨rfl, rfl, (by decide : 2 + 1 ≤ _), (by decide : 5 + 1 ≤ _)⟩)
          dsimp only [Pt.U, Pt.locs, Pt.cells, Pt.slots] at X130 l130 y130 z130 st130 hQ130
          subst l130 y130 z130
          obtain ⟨r130, rfl, N130q, K130, Er130⟩ := hQ130
          have N131 := Fr.app N25 N130q
          have f132 := f26.keep K130 all0
          have f133 := f27.keep K130
          have f134 := f28.keep K130 nin0
          have f135 := F24.keep K130 nin0
          have z136 := Nat.le_trans z29 K130.1
          refine Go.via (S' := T130.setTop (mkF m 134 #[.val (.long q1), .second, .val (.long q2), .second, .val (.int p3), .val (.int p4), .val (.int p5), .val (.ref b1), .val (.int ((p3 &&& (2147483647 : Int32)) % (5 : Int32))), .unset, .unset] [(.ref r130)])) (fun _ k => st130 _ k) ?_
          refine Go.via (S' := T130.setTop (mkF m 136 #[.val (.long q1), .second, .val (.long q2), .second, .val (.int p3), .val (.int p4), .val (.int p5), .val (.ref b1), .val (.int ((p3 &&& (2147483647 : Int32)) % (5 : Int32))), .val (.ref r130), .unset] [])) (fun _ k => XS.astore X130.here hx rfl (hb hby at_134) rfl rfl (l' := #[.val (.long q1), .second, .val (.long q2), .second, .val (.int p3), .val (.int p4), .val (.int p5), .val (.ref b1), .val (.int ((p3 &&& (2147483647 : Int32)) % (5 : Int32))), .val (.ref r130), .unset]) rfl k) ?_
          refine Go.via (S' := T130.setTop (mkF m 137 #[.val (.long q1), .second, .val (.long q2), .second, .val (.int p3), .val (.int p4), .val (.int p5), .val (.ref b1), .val (.int ((p3 &&& (2147483647 : Int32)) % (5 : Int32))), .val (.ref r130), .unset] [(.int (0 : Int32))])) (fun _ k => XS.iconst X130.here hx rfl (hb hby at_136) k) ?_
          refine Go.via (S' := T130.setTop (mkF m 139 #[.val (.long q1), .second, .val (.long q2), .second, .val (.int p3), .val (.int p4), .val (.int p5), .val (.ref b1), .val (.int ((p3 &&& (2147483647 : Int32)) % (5 : Int32))), .val (.ref r130), .val (.int (0 : Int32))] [])) (fun _ k => XS.istore X130.here hx rfl (hb hby at_137) rfl (l' := #[.val (.long q1), .second, .val (.long q2), .second, .val (.int p3), .val (.int p4), .val (.int p5), .val (.ref b1), .val (.int ((p3 &&& (2147483647 : Int32)) % (5 : Int32))), .val (.ref r130), .val (.int (0 : Int32))]) rfl k) ?_
          refine Go.via (S' := T130.setTop (mkF m 141 #[.val (.long q1), .second, .val (.long q2), .second, .val (.int p3), .val (.int p4), .val (.int p5), .val (.ref b1), .val (.int ((p3 &&& (2147483647 : Int32)) % (5 : Int32))), .val (.ref r130), .val (.int (0 : Int32))] [(.ref b1)])) (fun _ k => XS.aload X130.here hx rfl (hb hby at_139) rfl rfl k) ?_
          refine Go.via (S' := T130.setTop (mkF m 143 #[.val (.long q1), .second, .val (.long q2), .second, .val (.int p3), .val (.int p4), .val (.int p5), .val (.ref b1), .val (.int ((p3 &&& (2147483647 : Int32)) % (5 : Int32))), .val (.ref r130), .val (.int (0 : Int32))] [(.ref r130), (.ref b1)])) (fun _ k => XS.aload X130.here hx rfl (hb hby at_141) rfl rfl k) ?_
          obtain ⟨cq137, kq137, q137a, q137b, q137c⟩ := isOf hZ rfl f133
          obtain ⟨_, _, ⟨T137, L137, k137, n137⟩, -, X137, ⟨Lc137, hQ137, l137, y137, z137⟩, st137⟩ := X130.virtualBack hx (y := (⟨"com/example/tidegraph/tidegraph/graph/User", "equals", "(Ljava/lang/Object;)Z"⟩ : MethodName)) (z := (⟨"com/example/tidegraph/tidegraph/graph/User", "equals", "(Ljava/lang/Object;)Z"⟩ : MethodName)) hown (mvT hZ (hw _ (List.mem_of_getElem? (i := 15) rfl))) (mvT hZ (hw _ (List.mem_of_getElem? (i := 16) rfl))) (notFace_of_selects (args := #[]) (mvT hZ (hw _ (List.mem_of_getElem? (i := 18) rfl)))) (mvT hZ (hw _ (List.mem_of_getElem? (i := 18) rfl))) (mvT hZ (hw _ (List.mem_of_getElem? (i := 17) rfl))) (by decide) (backOf (W := 0) (rm3l l Z a0 hw [] b1 r130 T130.heap n0 z136 Er130) hZ (hw _ (List.mem_of_getElem? (i := 19) rfl)) (hw _ (List.mem_of_getElem? (i := 2) rfl)) (by decide) (by decide)) q137a q137c (g := (mkF m 143 #[.val (.long q1), .second, .val (.long q2), .second, .val (.int p3), .val (.int p4), .val (.int p5), .val (.ref b1), .val (.int ((p3 &&& (2147483647 : Int32)) % (5 : Int32))), .val (.ref r130), .val (.int (0 : Int32))] [(.ref r130), (.ref b1)])) rfl (by rw [hml]; rfl) (Steps.refl _) (argsL := [(.ref r130)]) (rest := []) (lenOf pd_3 rfl) rfl (by show 2 * 0 + _ ≤ _; exact Nat.le_of_eq rfl) (hb hby at_143) (fun _ _ => ⟨rfl, rfl, (by decide : 3 + 0 ≤ _), (by decide : 6 + 0 ≤ _)⟩)
          dsimp only [Pt.U, Pt.locs, Pt.cells, Pt.slots] at X137 l137 y137 z137 st137 hQ137
          subst l137 y137 z137
          obtain ⟨rfl, N137q, e137⟩ := hQ137
          have N138 := Fr.app N131 N137q
          refine Go.via (S' := T137.setTop (mkF m 146 #[.val (.long q1), .second, .val (.long q2), .second, .val (.int p3), .val (.int p4), .val (.int p5), .val (.ref b1), .val (.int ((p3 &&& (2147483647 : Int32)) % (5 : Int32))), .val (.ref r130), .val (.int (0 : Int32))] [(.int (0 : Int32))])) (fun _ k => st137.trans k) ?_
          refine Go.via (S' := T137.setTop (mkF m 148 #[.val (.long q1), .second, .val (.long q2), .second, .val (.int p3), .val (.int p4), .val (.int p5), .val (.ref b1), .val (.int ((p3 &&& (2147483647 : Int32)) % (5 : Int32))), .val (.ref r130), .val (.int (0 : Int32))] [(.int (0 : Int32)), (.int (0 : Int32))])) (fun _ k => XS.iload X137.here hx rfl (hb hby at_146) rfl k) ?_
          refine Go.via (S' := T137.setTop (mkF m 151 #[.val (.long q1), .second, .val (.long q2), .second, .val (.int p3), .val (.int p4), .val (.int p5), .val (.ref b1), .val (.int ((p3 &&& (2147483647 : Int32)) % (5 : Int32))), .val (.ref r130), .val (.int (0 : Int32))] [])) (fun _ k => XS.icmpNo X137.here hx rfl (hb hby at_148) rfl (teq (by decide)).2 k) ?_
          refine Go.via (S' := T137.setTop (mkF m 152 #[.val (.long q1), .second, .val (.long q2), .second, .val (.int p3), .val (.int p4), .val (.int p5), .val (.ref b1), .val (.int ((p3 &&& (2147483647 : Int32)) % (5 : Int32))), .val (.ref r130), .val (.int (0 : Int32))] [(.int (1 : Int32))])) (fun _ k => XS.iconst X137.here hx rfl (hb hby at_151) k) ?_
          refine Go.via (S' := T137.setTop (mkF m 156 #[.val (.long q1), .second, .val (.long q2), .second, .val (.int p3), .val (.int p4), .val (.int p5), .val (.ref b1), .val (.int ((p3 &&& (2147483647 : Int32)) % (5 : Int32))), .val (.ref r130), .val (.int (0 : Int32))] [(.int (1 : Int32))])) (fun _ k => XS.goto X137.here hx rfl (pc0 := 152) (pc' := 156) rfl (hb hby at_152) (by decide) (by decide) k) ?_
          exact Go.retB X137 hx (BodyLoose.notSynchronized Bd) Bd.returns (hb hby at_156) rfl (by rw [e137]; exact ⟨rfl, N138⟩) (by decide) (by decide)
set_option maxRecDepth 65536 in
set_option maxHeartbeats 40000000 in
theorem comes_1 {Post : Tables → Env → Array Value → State → Outcome → State → Prop} (hpost : ∀ tb e args s v u, (limb_1_1.after args s (.returned v) u = true ∧ limb_1_2.after args s (.returned v) u = true ∧ True) → FrameEnd s (.returned v) u (Jvm.fieldLocs frame_1_writes args s ++ Jvm.arrayLocs frame_1_arrays args s ++ Jvm.staticLocs frame_1_statics s) 16 128 → Post tb e args s (.returned v) u) :
    ArmFor flags0 classFile x code maxLocals ret World_1 tables_1 room_1 Calls_1 rest_1 Pre_1 Post := by
  intro l hfl _ _ p e ha hc hk s m args below hf hA hF happ hP
  obtain ⟨hcalls, hrest, hpre⟩ := hP
  obtain ⟨-, -, -, hnamed, -, -, -, hat⟩ := (Spec.applies_iff hf).mp happ
  obtain ⟨hg, hn⟩ := and_e (Cond.before_iff.mp (show (Jvm.Cond.and given_1 narrow_1).before args s = true from hpre))
  obtain ⟨gg0, hg0⟩ := and_e hg
  obtain ⟨gg1, hg1⟩ := and_e hg0
  obtain ⟨gg2, hg2⟩ := and_e hg1
  obtain ⟨gg3, hg3⟩ := and_e hg2
  obtain ⟨gg4, hg4⟩ := and_e hg3
  obtain ⟨w0, w1, w2, w3, w4, rfl⟩ : ∃ w0 w1 w2 w3 w4 : Value, args = #[w0, w1, w2, w3, w4] := by
    have hs : args.size = 5 := by simpa [Cond.value, given_1] using gg0
    obtain ⟨L⟩ := args
    match L, hs with
    | [w0, w1, w2, w3, w4], _ => exact ⟨w0, w1, w2, w3, w4, rfl⟩
  have hw := fun d (hd : d ∈ tables_1) => atoms_spec (ws := Jvm.Cond.code x code maxLocals ret :: tables_1) hat d (List.mem_cons_of_mem _ hd)
  have hfit : Fit s := fun {y c} hc i hi => by
    obtain ⟨ha, rfl⟩ := Array.getElem?_eq_some_iff.mp hc
    have q := List.all_eq_true.mp ((Array.all_eq_true_iff_forall_mem.mp hF) _ (Array.getElem_mem ha)) i (List.mem_range.mpr hi)
    simpa [Array.getElem?_eq_getElem hi] using q
  obtain ⟨hsets, hown0⟩ := atoms_of _ (rest_1_c_eq ▸ (show rest_1_c.before _ s = true from hrest))
  obtain ⟨i0, ei0⟩ := isL_v gg1
  obtain rfl : w0 = (.long i0) := Option.some.inj ei0
  obtain ⟨i1, ei1⟩ := isL_v gg2
  obtain rfl : w1 = (.long i1) := Option.some.inj ei1
  obtain ⟨i2, ei2⟩ := is_v gg3
  obtain rfl : w2 = (.int i2) := Option.some.inj ei2
  obtain ⟨i3, ei3⟩ := is_v gg4
  obtain rfl : w3 = (.int i3) := Option.some.inj ei3
  obtain ⟨i4, ei4⟩ := is_v hg4
  obtain rfl : w4 = (.int i4) := Option.some.inj ei4
  obtain ⟨ca, ec⟩ := arr_v (Cond.before_iff.mp (hsets _ (List.mem_of_getElem? (i := 2) rfl)))
  have Sc := Sta.start ec (Or.inl (hsets _ (List.mem_of_getElem? (i := 1) rfl)))
  obtain ⟨cc, Ac⟩ := Arr.start ec (Cond.before_iff.mp (hsets _ (List.mem_of_getElem? (i := 2) rfl)))
  have hl := eqv_i (Term.int_eval (256)) (Cond.before_iff.mp (hsets _ (List.mem_of_getElem? (i := 4) rfl)))
  have hl2 : cc.slots.size < 2 ^ 31 ∧ cc.slots.size.toInt32 = 256 := own_len ec (Ac.fin (Vm.Alike.refl _)) hl
  have Bc : Bxs s ca cc "java/lang/Long" "J" 256 (fun j => .long (j - 128).toInt64) := Bxs.start (fun _ => ec) Ac hl2.1 hl2.2 (by decide) (Cond.before_iff.mp (hsets _ (List.mem_of_getElem? (i := 5) rfl))) (fun X j nn hq => eqv_l (i2l_at (Term.sub_int (idx_at nn) (Term.int_eval 128))) hq)
  obtain ⟨n, o, h1, h2, h3, _, L, rfl, ⟨rfl, N⟩, hq⟩ := rm0 l s _ hw tables_1 i0 i1 i2 i3 i4 ca cc s.heap s.heap.size (Nat.le_refl _) (Old.start s) Sc Bc p e ha hc hk s m _ below hf ((Spec.applies_iff_loose hf).mp happ).1 ⟨rfl, State.Warmed39.refl s, rfl⟩ trivial
  refine ⟨n, _, h1, h2, h3, hpost _ _ _ _ _ _ ⟨Cond.after_iff.mpr rfl, Cond.after_iff.mpr (eq_i res_at (Term.int_eval (1)) rfl), trivial⟩ ⟨hq.1, hq.2.1, (hq.2.2.sift fun y hy => Or.inr (N y hy)).mono (by decide) (by decide)⟩⟩
theorem main_1_1 : Claimed_1_1 := comes_1 fun _ _ _ _ _ _ h hF => ⟨h.1, hF⟩
theorem main_1_2 : Claimed_1_2 := comes_1 fun _ _ _ _ _ _ h hF => ⟨h.2.1, hF⟩
end Jvm.Pilot.@@N@@
namespace Jvm.Pilot.@@N@@
open Jvm Jvm.ClassFile Sem Op Lib Jvm.Free Jvm.Stand Jvm.Pilot.@@N@@.Jvm.D
/-! MADE BY PROGRAM (witnessworld.py) out of the Statement's table words and the real class files: 16 classes; the members and pool entries that the words name. The judged class is class 1, her method 1. -/
namespace start1
open Jvm.ClassFile
def u (s : String) : CpInfo := .utf8 (stringToUtf16 s)
/-- a pool by its gaps: so many unusable entries, then the entry; so many at the end -/
def gap : Nat → List CpInfo → List CpInfo
  | 0, r => r
  | n + 1, r => .unusable :: gap n r
def poolList (es : List (Nat × CpInfo)) (last : Nat) : List CpInfo := es.foldr (fun e r => gap e.1 (e.2 :: r)) (gap last [])
def pool (es : List (Nat × CpInfo)) (last : Nat) : Array CpInfo := ⟨poolList es last⟩
def fileOf (pool : Array CpInfo) (this : Nat) (attrs : Array Attribute := #[]) (ms : Array MethodInfo := #[]) (fl : Nat := 33) (sup : Nat := 0) (ifs : Array Nat := #[]) (fds : Array FieldInfo := #[]) : ClassFile where
  minorVersion := 0
  majorVersion := 65
  constantPool := pool
  accessFlags := fl
  thisClass := this
  superClass := sup
  interfaces := ifs
  fields := fds
  methods := ms
  attributes := attrs
def plain (name : String) (sup : Option ClassId) : Class where
  name := name
  kind := .ordinary
  loader := none
  accessFlags := 33
  super := sup
  interfaces := #[]
  cf := none
  fields := #[]
  methods := #[]
  instanceTypes := #[]
  staticTypes := #[]
  resolved := #[]
  callSites := []
  init := .initialized
  statics := none
  mirror := none

def pool0 : Array CpInfo := pool [(5, u "<init>"), (0, u "()V"), (1, .class_ 10), (1, u "java/lang/Object")] 113

def k0c0 : Code := { maxStack := 0, maxLocals := 1, code := object_method_1_code, exceptionTable := #[], attributes := #[] }
def k0m0 : Method := { name := "<init>", desc := "()V", sig := { parameters := [], returnType := none }, accessFlags := 1, code := some k0c0 }
/-- java/lang/Object -/
def k0 : Class := { plain "java/lang/Object" none with
  accessFlags := 33
  interfaces := #[]
  cf := some (fileOf pool0 8 #[] #[{ accessFlags := 1, nameIndex := 5, descriptorIndex := 6, attributes := #[] }] 33 0 #[] #[])
  fields := #[]
  methods := #[k0m0]
  instanceTypes := #[]
  staticTypes := #[]
  resolved := Array.replicate 124 none
  statics := none }

def pool1 : Array CpInfo := pool [(2, .class_ 4), (1, u "java/lang/Object"), (0, u "<init>"), (0, u "()V"), (0, .class_ 8), (0, u "com/example/tidegraph/tidegraph/graph/User"), (0, .methodref 7 10), (0, .nameAndType 5 11), (0, u "(J[B)V"), (0, .integer 2147483647), (0, .methodref 14 15), (0, .class_ 16), (0, .nameAndType 17 18), (0, u "java/lang/Long"), (0, u "valueOf"), (0, u "(J)Ljava/lang/Long;"), (0, .methodref 7 20), (0, .nameAndType 21 22), (0, u "equals"), (0, u "(Ljava/lang/Object;)Z"), (0, .class_ 24), (0, u "com/example/tidegraph/tidegraph/graph/UserEqualsPinLaw"), (2, u "law"), (0, u "(JJIII)Z")] 3

def k1m0 : Method := { name := "<init>", desc := "()V", sig := { parameters := [], returnType := none }, accessFlags := 2, code := none }
def k1c1 : Code := { maxStack := 8, maxLocals := 11, code := code, exceptionTable := #[], attributes := #[] }
def k1m1 : Method := { name := "law", desc := "(JJIII)Z", sig := { parameters := [.long, .long, .int, .int, .int], returnType := some .boolean }, accessFlags := 9, code := some k1c1 }
/-- com/example/tidegraph/tidegraph/graph/UserEqualsPinLaw -/
def k1 : Class := { plain "com/example/tidegraph/tidegraph/graph/UserEqualsPinLaw" (some 0) with
  accessFlags := 49
  interfaces := #[]
  cf := some (fileOf pool1 23 #[] #[{ accessFlags := 2, nameIndex := 5, descriptorIndex := 6, attributes := #[] }, { accessFlags := 9, nameIndex := 27, descriptorIndex := 28, attributes := #[] }] 49 2 #[] #[])
  fields := #[]
  methods := #[k1m0, k1m1]
  instanceTypes := #[]
  staticTypes := #[]
  resolved := Array.replicate 32 none
  statics := none }

def pool2 : Array CpInfo := pool [(1, .class_ 2), (0, u "java/lang/Comparable"), (0, .class_ 4), (0, u "java/lang/Object")] 7

/-- java/lang/Comparable -/
def k2 : Class := { plain "java/lang/Comparable" (some 0) with
  accessFlags := 1537
  interfaces := #[]
  cf := some (fileOf pool2 1 #[] #[] 1537 3 #[] #[])
  fields := #[]
  methods := #[]
  instanceTypes := #[]
  staticTypes := #[]
  resolved := Array.replicate 12 none
  statics := none }

def pool3 : Array CpInfo := pool [(1, .methodref 2 3), (0, .class_ 4), (0, .nameAndType 5 6), (0, u "java/lang/Object"), (0, u "<init>"), (0, u "()V"), (0, .fieldref 8 9), (0, .class_ 10), (0, .nameAndType 11 12), (0, u "com/example/tidegraph/tidegraph/graph/User"), (0, u "id"), (0, u "J"), (0, .fieldref 8 14), (0, .nameAndType 15 16), (0, u "name"), (0, u "[B"), (13, u "friends"), (0, u "Lcom/example/tidegraph/tidegraph/graph/UserSet;"), (5, u "likes"), (0, u "Lcom/example/tidegraph/tidegraph/graph/ElementList;"), (29, .class_ 69), (0, u "java/lang/Comparable"), (2, u "(J[B)V"), (12, u "equals"), (0, u "(Ljava/lang/Object;)Z")] 22

def k3c0 : Code := { maxStack := 3, maxLocals := 4, code := prog_15_method_1_code, exceptionTable := #[], attributes := #[] }
def k3m0 : Method := { name := "<init>", desc := "(J[B)V", sig := { parameters := [.long, (.array .byte)], returnType := none }, accessFlags := 0, code := some k3c0 }
def k3c1 : Code := { maxStack := 4, maxLocals := 2, code := prog_15_method_8_code, exceptionTable := #[], attributes := #[] }
def k3m1 : Method := { name := "equals", desc := "(Ljava/lang/Object;)Z", sig := { parameters := [(.object "java/lang/Object")], returnType := some .boolean }, accessFlags := 1, code := some k3c1 }
/-- com/example/tidegraph/tidegraph/graph/User -/
def k3 : Class := { plain "com/example/tidegraph/tidegraph/graph/User" (some 0) with
  accessFlags := 49
  interfaces := #[2]
  cf := some (fileOf pool3 8 #[] #[{ accessFlags := 0, nameIndex := 5, descriptorIndex := 72, attributes := #[] }, { accessFlags := 1, nameIndex := 85, descriptorIndex := 86, attributes := #[] }] 49 2 #[68] #[{ accessFlags := 18, nameIndex := 11, descriptorIndex := 12, attributes := #[] }, { accessFlags := 18, nameIndex := 15, descriptorIndex := 16, attributes := #[] }, { accessFlags := 2, nameIndex := 30, descriptorIndex := 31, attributes := #[] }, { accessFlags := 2, nameIndex := 37, descriptorIndex := 38, attributes := #[] }])
  fields := #[{ name := "id", type := .long, accessFlags := 18, slot := 0, constantValue := 0 }, { name := "name", type := (.array .byte), accessFlags := 18, slot := 1, constantValue := 0 }, { name := "friends", type := (.object "com/example/tidegraph/tidegraph/graph/UserSet"), accessFlags := 2, slot := 2, constantValue := 0 }, { name := "likes", type := (.object "com/example/tidegraph/tidegraph/graph/ElementList"), accessFlags := 2, slot := 3, constantValue := 0 }]
  methods := #[k3m0, k3m1]
  instanceTypes := #[.long, (.array .byte), (.object "com/example/tidegraph/tidegraph/graph/UserSet"), (.object "com/example/tidegraph/tidegraph/graph/ElementList")]
  staticTypes := #[]
  resolved := Array.replicate 109 none
  statics := none }

def pool4 : Array CpInfo := pool [(1, .class_ 2), (0, u "java/io/Serializable"), (0, .class_ 4), (0, u "java/lang/Object")] 2

/-- java/io/Serializable -/
def k4 : Class := { plain "java/io/Serializable" (some 0) with
  accessFlags := 1537
  interfaces := #[]
  cf := some (fileOf pool4 1 #[] #[] 1537 3 #[] #[])
  fields := #[]
  methods := #[]
  instanceTypes := #[]
  staticTypes := #[]
  resolved := Array.replicate 7 none
  statics := none }

def pool5 : Array CpInfo := pool [(1, .methodref 2 3), (0, .class_ 4), (0, .nameAndType 5 6), (0, u "java/lang/Object"), (0, u "<init>"), (0, u "()V"), (1, .class_ 10), (1, u "java/lang/Number"), (2, .class_ 14), (0, u "java/io/Serializable"), (0, u "serialVersionUID"), (0, u "J")] 20

def k5c0 : Code := { maxStack := 1, maxLocals := 1, code := jdk_18_method_1_code, exceptionTable := #[], attributes := #[] }
def k5m0 : Method := { name := "<init>", desc := "()V", sig := { parameters := [], returnType := none }, accessFlags := 1, code := some k5c0 }
/-- java/lang/Number -/
def k5 : Class := { plain "java/lang/Number" (some 0) with
  accessFlags := 1057
  interfaces := #[4]
  cf := some (fileOf pool5 8 #[] #[{ accessFlags := 1, nameIndex := 5, descriptorIndex := 6, attributes := #[] }] 1057 2 #[13] #[{ accessFlags := 26, nameIndex := 15, descriptorIndex := 16, attributes := #[] }])
  fields := #[{ name := "serialVersionUID", type := .long, accessFlags := 26, slot := 0, constantValue := 0 }]
  methods := #[k5m0]
  instanceTypes := #[]
  staticTypes := #[.long]
  resolved := Array.replicate 37 none
  statics := none }

def pool6 : Array CpInfo := pool [(1, .class_ 2), (0, u "java/lang/constant/Constable"), (0, .class_ 4), (0, u "java/lang/Object")] 6

/-- java/lang/constant/Constable -/
def k6 : Class := { plain "java/lang/constant/Constable" (some 0) with
  accessFlags := 1537
  interfaces := #[]
  cf := some (fileOf pool6 1 #[] #[] 1537 3 #[] #[])
  fields := #[]
  methods := #[]
  instanceTypes := #[]
  staticTypes := #[]
  resolved := Array.replicate 11 none
  statics := none }

def pool7 : Array CpInfo := pool [(1, .class_ 2), (0, u "java/lang/constant/ConstantDesc"), (0, .class_ 4), (0, u "java/lang/Object")] 32

/-- java/lang/constant/ConstantDesc -/
def k7 : Class := { plain "java/lang/constant/ConstantDesc" (some 0) with
  accessFlags := 1537
  interfaces := #[]
  cf := some (fileOf pool7 1 #[] #[] 1537 3 #[] #[])
  fields := #[]
  methods := #[]
  instanceTypes := #[]
  staticTypes := #[]
  resolved := Array.replicate 37 none
  statics := none }

def pool8 : Array CpInfo := pool [(1, .class_ 2), (0, u "java/lang/Long"), (55, .nameAndType 59 60), (0, u "<init>"), (0, u "()V"), (24, u "valueOf"), (143, u "(J)Ljava/lang/Long;"), (0, .long 18446744073709551488), (1, .long 127), (1, .fieldref 235 236), (0, .class_ 237), (0, .nameAndType 238 239), (0, u "java/lang/Long$LongCache"), (0, u "cache"), (0, u "[Ljava/lang/Long;"), (0, .methodref 1 241), (0, .nameAndType 59 242), (0, u "(J)V"), (27, .methodref 271 58), (0, .class_ 272), (0, u "java/lang/Number"), (0, .fieldref 1 274), (0, .nameAndType 275 276), (0, u "value"), (0, u "J"), (84, u "TYPE"), (0, u "Ljava/lang/Class;"), (0, .class_ 364), (0, u "java/lang/Comparable"), (0, .class_ 366), (0, u "java/lang/constant/Constable"), (0, .class_ 368), (0, u "java/lang/constant/ConstantDesc"), (0, u "MIN_VALUE"), (1, u "MAX_VALUE"), (4, u "SIZE"), (0, u "I"), (1, u "BYTES"), (1, u "serialVersionUID")] 142

def k8c0 : Code := { maxStack := 4, maxLocals := 3, code := jdk_35_method_24_code, exceptionTable := #[], attributes := #[] }
def k8m0 : Method := { name := "valueOf", desc := "(J)Ljava/lang/Long;", sig := { parameters := [.long], returnType := some (.object "java/lang/Long") }, accessFlags := 9, code := some k8c0 }
def k8c1 : Code := { maxStack := 3, maxLocals := 3, code := jdk_35_method_26_code, exceptionTable := #[], attributes := #[] }
def k8m1 : Method := { name := "<init>", desc := "(J)V", sig := { parameters := [.long], returnType := none }, accessFlags := 1, code := some k8c1 }
/-- java/lang/Long -/
def k8 : Class := { plain "java/lang/Long" (some 5) with
  accessFlags := 49
  interfaces := #[2, 6, 7]
  cf := some (fileOf pool8 1 #[.nestMembers #[235]] #[{ accessFlags := 9, nameIndex := 85, descriptorIndex := 229, attributes := #[] }, { accessFlags := 1, nameIndex := 59, descriptorIndex := 242, attributes := #[] }] 49 271 #[363, 365, 367] #[{ accessFlags := 25, nameIndex := 369, descriptorIndex := 276, attributes := #[] }, { accessFlags := 25, nameIndex := 371, descriptorIndex := 276, attributes := #[] }, { accessFlags := 25, nameIndex := 361, descriptorIndex := 362, attributes := #[] }, { accessFlags := 18, nameIndex := 275, descriptorIndex := 276, attributes := #[] }, { accessFlags := 25, nameIndex := 376, descriptorIndex := 377, attributes := #[] }, { accessFlags := 25, nameIndex := 379, descriptorIndex := 377, attributes := #[] }, { accessFlags := 26, nameIndex := 381, descriptorIndex := 276, attributes := #[] }])
  fields := #[{ name := "MIN_VALUE", type := .long, accessFlags := 25, slot := 0, constantValue := 0 }, { name := "MAX_VALUE", type := .long, accessFlags := 25, slot := 1, constantValue := 0 }, { name := "TYPE", type := (.object "java/lang/Class"), accessFlags := 25, slot := 2, constantValue := 0 }, { name := "value", type := .long, accessFlags := 18, slot := 0, constantValue := 0 }, { name := "SIZE", type := .int, accessFlags := 25, slot := 3, constantValue := 0 }, { name := "BYTES", type := .int, accessFlags := 25, slot := 4, constantValue := 0 }, { name := "serialVersionUID", type := .long, accessFlags := 26, slot := 5, constantValue := 0 }]
  methods := #[k8m0, k8m1]
  instanceTypes := #[.long]
  staticTypes := #[.long, .long, (.object "java/lang/Class"), .int, .int, .long]
  resolved := Array.replicate 524 none
  statics := none }

def pool9 : Array CpInfo := pool [(2, .class_ 4), (1, u "java/lang/Object"), (0, u "<init>"), (0, u "()V"), (0, .class_ 8), (0, u "java/lang/Long"), (7, .class_ 18), (1, u "java/lang/Long$LongCache"), (0, u "$assertionsDisabled"), (0, u "Z"), (8, u "archivedCache"), (0, u "[Ljava/lang/Long;"), (7, u "cache")] 24

def k9m0 : Method := { name := "<init>", desc := "()V", sig := { parameters := [], returnType := none }, accessFlags := 2, code := none }
/-- java/lang/Long$LongCache -/
def k9 : Class := { plain "java/lang/Long$LongCache" (some 0) with
  accessFlags := 48
  interfaces := #[]
  cf := some (fileOf pool9 16 #[.nestHost 7] #[{ accessFlags := 2, nameIndex := 5, descriptorIndex := 6, attributes := #[] }] 48 2 #[] #[{ accessFlags := 24, nameIndex := 38, descriptorIndex := 30, attributes := #[] }, { accessFlags := 8, nameIndex := 29, descriptorIndex := 30, attributes := #[] }, { accessFlags := 4120, nameIndex := 19, descriptorIndex := 20, attributes := #[] }])
  fields := #[{ name := "cache", type := (.array (.object "java/lang/Long")), accessFlags := 24, slot := 0, constantValue := 0 }, { name := "archivedCache", type := (.array (.object "java/lang/Long")), accessFlags := 8, slot := 1, constantValue := 0 }, { name := "$assertionsDisabled", type := .boolean, accessFlags := 4120, slot := 2, constantValue := 0 }]
  methods := #[k9m0]
  instanceTypes := #[]
  staticTypes := #[(.array (.object "java/lang/Long")), (.array (.object "java/lang/Long")), .boolean]
  resolved := Array.replicate 63 none
  statics := some 0 }

def pool10 : Array CpInfo := pool [(1, u "java/lang/Cloneable"), (0, .class_ 1), (0, u "java/lang/Object"), (0, .class_ 3)] 3

/-- java/lang/Cloneable -/
def k10 : Class := { plain "java/lang/Cloneable" (some 0) with
  accessFlags := 1537
  interfaces := #[]
  cf := some (fileOf pool10 2 #[] #[] 1537 4 #[] #[])
  fields := #[]
  methods := #[]
  instanceTypes := #[]
  staticTypes := #[]
  resolved := Array.replicate 8 none
  statics := none }

/-- the primitive byte -/
def k11 : Class := { plain "byte" none with kind := .primitive 'B', accessFlags := 0x411 }
/-- [B -/
def k12 : Class := { plain "[B" (some 0) with kind := .array 11 .byte, interfaces := #[10, 4], accessFlags := 1041 }

/-- the primitive int -/
def k13 : Class := { plain "int" none with kind := .primitive 'I', accessFlags := 0x411 }
/-- [I -/
def k14 : Class := { plain "[I" (some 0) with kind := .array 13 .int, interfaces := #[10, 4], accessFlags := 1041 }

/-- [Ljava/lang/Long; -/
def k15 : Class := { plain "[Ljava/lang/Long;" (some 0) with kind := .array 8 (.object "java/lang/Long"), interfaces := #[10, 4], accessFlags := 1041 }

def heap : Heap := #[{ cls := 9, slots := #[.ref 1, .null, .int 0], vm := .statics 9 },
  { cls := 15, slots := #[.ref 2, .ref 3, .ref 4, .ref 5, .ref 6, .ref 7, .ref 8, .ref 9, .ref 10, .ref 11, .ref 12, .ref 13, .ref 14, .ref 15, .ref 16, .ref 17, .ref 18, .ref 19, .ref 20, .ref 21, .ref 22, .ref 23, .ref 24, .ref 25, .ref 26, .ref 27, .ref 28, .ref 29, .ref 30, .ref 31, .ref 32, .ref 33, .ref 34, .ref 35, .ref 36, .ref 37, .ref 38, .ref 39, .ref 40, .ref 41, .ref 42, .ref 43, .ref 44, .ref 45, .ref 46, .ref 47, .ref 48, .ref 49, .ref 50, .ref 51, .ref 52, .ref 53, .ref 54, .ref 55, .ref 56, .ref 57, .ref 58, .ref 59, .ref 60, .ref 61, .ref 62, .ref 63, .ref 64, .ref 65, .ref 66, .ref 67, .ref 68, .ref 69, .ref 70, .ref 71, .ref 72, .ref 73, .ref 74, .ref 75, .ref 76, .ref 77, .ref 78, .ref 79, .ref 80, .ref 81, .ref 82, .ref 83, .ref 84, .ref 85, .ref 86, .ref 87, .ref 88, .ref 89, .ref 90, .ref 91, .ref 92, .ref 93, .ref 94, .ref 95, .ref 96, .ref 97, .ref 98, .ref 99, .ref 100, .ref 101, .ref 102, .ref 103, .ref 104, .ref 105, .ref 106, .ref 107, .ref 108, .ref 109, .ref 110, .ref 111, .ref 112, .ref 113, .ref 114, .ref 115, .ref 116, .ref 117, .ref 118, .ref 119, .ref 120, .ref 121, .ref 122, .ref 123, .ref 124, .ref 125, .ref 126, .ref 127, .ref 128, .ref 129, .ref 130, .ref 131, .ref 132, .ref 133, .ref 134, .ref 135, .ref 136, .ref 137, .ref 138, .ref 139, .ref 140, .ref 141, .ref 142, .ref 143, .ref 144, .ref 145, .ref 146, .ref 147, .ref 148, .ref 149, .ref 150, .ref 151, .ref 152, .ref 153, .ref 154, .ref 155, .ref 156, .ref 157, .ref 158, .ref 159, .ref 160, .ref 161, .ref 162, .ref 163, .ref 164, .ref 165, .ref 166, .ref 167, .ref 168, .ref 169, .ref 170, .ref 171, .ref 172, .ref 173, .ref 174, .ref 175, .ref 176, .ref 177, .ref 178, .ref 179, .ref 180, .ref 181, .ref 182, .ref 183, .ref 184, .ref 185, .ref 186, .ref 187, .ref 188, .ref 189, .ref 190, .ref 191, .ref 192, .ref 193, .ref 194, .ref 195, .ref 196, .ref 197, .ref 198, .ref 199, .ref 200, .ref 201, .ref 202, .ref 203, .ref 204, .ref 205, .ref 206, .ref 207, .ref 208, .ref 209, .ref 210, .ref 211, .ref 212, .ref 213, .ref 214, .ref 215, .ref 216, .ref 217, .ref 218, .ref 219, .ref 220, .ref 221, .ref 222, .ref 223, .ref 224, .ref 225, .ref 226, .ref 227, .ref 228, .ref 229, .ref 230, .ref 231, .ref 232, .ref 233, .ref 234, .ref 235, .ref 236, .ref 237, .ref 238, .ref 239, .ref 240, .ref 241, .ref 242, .ref 243, .ref 244, .ref 245, .ref 246, .ref 247, .ref 248, .ref 249, .ref 250, .ref 251, .ref 252, .ref 253, .ref 254, .ref 255, .ref 256, .ref 257], vm := .none },
  { cls := 8, slots := #[.long (-128)], vm := .none },
  { cls := 8, slots := #[.long (-127)], vm := .none },
  { cls := 8, slots := #[.long (-126)], vm := .none },
  { cls := 8, slots := #[.long (-125)], vm := .none },
  { cls := 8, slots := #[.long (-124)], vm := .none },
  { cls := 8, slots := #[.long (-123)], vm := .none },
  { cls := 8, slots := #[.long (-122)], vm := .none },
  { cls := 8, slots := #[.long (-121)], vm := .none },
  { cls := 8, slots := #[.long (-120)], vm := .none },
  { cls := 8, slots := #[.long (-119)], vm := .none },
  { cls := 8, slots := #[.long (-118)], vm := .none },
  { cls := 8, slots := #[.long (-117)], vm := .none },
  { cls := 8, slots := #[.long (-116)], vm := .none },
  { cls := 8, slots := #[.long (-115)], vm := .none },
  { cls := 8, slots := #[.long (-114)], vm := .none },
  { cls := 8, slots := #[.long (-113)], vm := .none },
  { cls := 8, slots := #[.long (-112)], vm := .none },
  { cls := 8, slots := #[.long (-111)], vm := .none },
  { cls := 8, slots := #[.long (-110)], vm := .none },
  { cls := 8, slots := #[.long (-109)], vm := .none },
  { cls := 8, slots := #[.long (-108)], vm := .none },
  { cls := 8, slots := #[.long (-107)], vm := .none },
  { cls := 8, slots := #[.long (-106)], vm := .none },
  { cls := 8, slots := #[.long (-105)], vm := .none },
  { cls := 8, slots := #[.long (-104)], vm := .none },
  { cls := 8, slots := #[.long (-103)], vm := .none },
  { cls := 8, slots := #[.long (-102)], vm := .none },
  { cls := 8, slots := #[.long (-101)], vm := .none },
  { cls := 8, slots := #[.long (-100)], vm := .none },
  { cls := 8, slots := #[.long (-99)], vm := .none },
  { cls := 8, slots := #[.long (-98)], vm := .none },
  { cls := 8, slots := #[.long (-97)], vm := .none },
  { cls := 8, slots := #[.long (-96)], vm := .none },
  { cls := 8, slots := #[.long (-95)], vm := .none },
  { cls := 8, slots := #[.long (-94)], vm := .none },
  { cls := 8, slots := #[.long (-93)], vm := .none },
  { cls := 8, slots := #[.long (-92)], vm := .none },
  { cls := 8, slots := #[.long (-91)], vm := .none },
  { cls := 8, slots := #[.long (-90)], vm := .none },
  { cls := 8, slots := #[.long (-89)], vm := .none },
  { cls := 8, slots := #[.long (-88)], vm := .none },
  { cls := 8, slots := #[.long (-87)], vm := .none },
  { cls := 8, slots := #[.long (-86)], vm := .none },
  { cls := 8, slots := #[.long (-85)], vm := .none },
  { cls := 8, slots := #[.long (-84)], vm := .none },
  { cls := 8, slots := #[.long (-83)], vm := .none },
  { cls := 8, slots := #[.long (-82)], vm := .none },
  { cls := 8, slots := #[.long (-81)], vm := .none },
  { cls := 8, slots := #[.long (-80)], vm := .none },
  { cls := 8, slots := #[.long (-79)], vm := .none },
  { cls := 8, slots := #[.long (-78)], vm := .none },
  { cls := 8, slots := #[.long (-77)], vm := .none },
  { cls := 8, slots := #[.long (-76)], vm := .none },
  { cls := 8, slots := #[.long (-75)], vm := .none },
  { cls := 8, slots := #[.long (-74)], vm := .none },
  { cls := 8, slots := #[.long (-73)], vm := .none },
  { cls := 8, slots := #[.long (-72)], vm := .none },
  { cls := 8, slots := #[.long (-71)], vm := .none },
  { cls := 8, slots := #[.long (-70)], vm := .none },
  { cls := 8, slots := #[.long (-69)], vm := .none },
  { cls := 8, slots := #[.long (-68)], vm := .none },
  { cls := 8, slots := #[.long (-67)], vm := .none },
  { cls := 8, slots := #[.long (-66)], vm := .none },
  { cls := 8, slots := #[.long (-65)], vm := .none },
  { cls := 8, slots := #[.long (-64)], vm := .none },
  { cls := 8, slots := #[.long (-63)], vm := .none },
  { cls := 8, slots := #[.long (-62)], vm := .none },
  { cls := 8, slots := #[.long (-61)], vm := .none },
  { cls := 8, slots := #[.long (-60)], vm := .none },
  { cls := 8, slots := #[.long (-59)], vm := .none },
  { cls := 8, slots := #[.long (-58)], vm := .none },
  { cls := 8, slots := #[.long (-57)], vm := .none },
  { cls := 8, slots := #[.long (-56)], vm := .none },
  { cls := 8, slots := #[.long (-55)], vm := .none },
  { cls := 8, slots := #[.long (-54)], vm := .none },
  { cls := 8, slots := #[.long (-53)], vm := .none },
  { cls := 8, slots := #[.long (-52)], vm := .none },
  { cls := 8, slots := #[.long (-51)], vm := .none },
  { cls := 8, slots := #[.long (-50)], vm := .none },
  { cls := 8, slots := #[.long (-49)], vm := .none },
  { cls := 8, slots := #[.long (-48)], vm := .none },
  { cls := 8, slots := #[.long (-47)], vm := .none },
  { cls := 8, slots := #[.long (-46)], vm := .none },
  { cls := 8, slots := #[.long (-45)], vm := .none },
  { cls := 8, slots := #[.long (-44)], vm := .none },
  { cls := 8, slots := #[.long (-43)], vm := .none },
  { cls := 8, slots := #[.long (-42)], vm := .none },
  { cls := 8, slots := #[.long (-41)], vm := .none },
  { cls := 8, slots := #[.long (-40)], vm := .none },
  { cls := 8, slots := #[.long (-39)], vm := .none },
  { cls := 8, slots := #[.long (-38)], vm := .none },
  { cls := 8, slots := #[.long (-37)], vm := .none },
  { cls := 8, slots := #[.long (-36)], vm := .none },
  { cls := 8, slots := #[.long (-35)], vm := .none },
  { cls := 8, slots := #[.long (-34)], vm := .none },
  { cls := 8, slots := #[.long (-33)], vm := .none },
  { cls := 8, slots := #[.long (-32)], vm := .none },
  { cls := 8, slots := #[.long (-31)], vm := .none },
  { cls := 8, slots := #[.long (-30)], vm := .none },
  { cls := 8, slots := #[.long (-29)], vm := .none },
  { cls := 8, slots := #[.long (-28)], vm := .none },
  { cls := 8, slots := #[.long (-27)], vm := .none },
  { cls := 8, slots := #[.long (-26)], vm := .none },
  { cls := 8, slots := #[.long (-25)], vm := .none },
  { cls := 8, slots := #[.long (-24)], vm := .none },
  { cls := 8, slots := #[.long (-23)], vm := .none },
  { cls := 8, slots := #[.long (-22)], vm := .none },
  { cls := 8, slots := #[.long (-21)], vm := .none },
  { cls := 8, slots := #[.long (-20)], vm := .none },
  { cls := 8, slots := #[.long (-19)], vm := .none },
  { cls := 8, slots := #[.long (-18)], vm := .none },
  { cls := 8, slots := #[.long (-17)], vm := .none },
  { cls := 8, slots := #[.long (-16)], vm := .none },
  { cls := 8, slots := #[.long (-15)], vm := .none },
  { cls := 8, slots := #[.long (-14)], vm := .none },
  { cls := 8, slots := #[.long (-13)], vm := .none },
  { cls := 8, slots := #[.long (-12)], vm := .none },
  { cls := 8, slots := #[.long (-11)], vm := .none },
  { cls := 8, slots := #[.long (-10)], vm := .none },
  { cls := 8, slots := #[.long (-9)], vm := .none },
  { cls := 8, slots := #[.long (-8)], vm := .none },
  { cls := 8, slots := #[.long (-7)], vm := .none },
  { cls := 8, slots := #[.long (-6)], vm := .none },
  { cls := 8, slots := #[.long (-5)], vm := .none },
  { cls := 8, slots := #[.long (-4)], vm := .none },
  { cls := 8, slots := #[.long (-3)], vm := .none },
  { cls := 8, slots := #[.long (-2)], vm := .none },
  { cls := 8, slots := #[.long (-1)], vm := .none },
  { cls := 8, slots := #[.long (0)], vm := .none },
  { cls := 8, slots := #[.long (1)], vm := .none },
  { cls := 8, slots := #[.long (2)], vm := .none },
  { cls := 8, slots := #[.long (3)], vm := .none },
  { cls := 8, slots := #[.long (4)], vm := .none },
  { cls := 8, slots := #[.long (5)], vm := .none },
  { cls := 8, slots := #[.long (6)], vm := .none },
  { cls := 8, slots := #[.long (7)], vm := .none },
  { cls := 8, slots := #[.long (8)], vm := .none },
  { cls := 8, slots := #[.long (9)], vm := .none },
  { cls := 8, slots := #[.long (10)], vm := .none },
  { cls := 8, slots := #[.long (11)], vm := .none },
  { cls := 8, slots := #[.long (12)], vm := .none },
  { cls := 8, slots := #[.long (13)], vm := .none },
  { cls := 8, slots := #[.long (14)], vm := .none },
  { cls := 8, slots := #[.long (15)], vm := .none },
  { cls := 8, slots := #[.long (16)], vm := .none },
  { cls := 8, slots := #[.long (17)], vm := .none },
  { cls := 8, slots := #[.long (18)], vm := .none },
  { cls := 8, slots := #[.long (19)], vm := .none },
  { cls := 8, slots := #[.long (20)], vm := .none },
  { cls := 8, slots := #[.long (21)], vm := .none },
  { cls := 8, slots := #[.long (22)], vm := .none },
  { cls := 8, slots := #[.long (23)], vm := .none },
  { cls := 8, slots := #[.long (24)], vm := .none },
  { cls := 8, slots := #[.long (25)], vm := .none },
  { cls := 8, slots := #[.long (26)], vm := .none },
  { cls := 8, slots := #[.long (27)], vm := .none },
  { cls := 8, slots := #[.long (28)], vm := .none },
  { cls := 8, slots := #[.long (29)], vm := .none },
  { cls := 8, slots := #[.long (30)], vm := .none },
  { cls := 8, slots := #[.long (31)], vm := .none },
  { cls := 8, slots := #[.long (32)], vm := .none },
  { cls := 8, slots := #[.long (33)], vm := .none },
  { cls := 8, slots := #[.long (34)], vm := .none },
  { cls := 8, slots := #[.long (35)], vm := .none },
  { cls := 8, slots := #[.long (36)], vm := .none },
  { cls := 8, slots := #[.long (37)], vm := .none },
  { cls := 8, slots := #[.long (38)], vm := .none },
  { cls := 8, slots := #[.long (39)], vm := .none },
  { cls := 8, slots := #[.long (40)], vm := .none },
  { cls := 8, slots := #[.long (41)], vm := .none },
  { cls := 8, slots := #[.long (42)], vm := .none },
  { cls := 8, slots := #[.long (43)], vm := .none },
  { cls := 8, slots := #[.long (44)], vm := .none },
  { cls := 8, slots := #[.long (45)], vm := .none },
  { cls := 8, slots := #[.long (46)], vm := .none },
  { cls := 8, slots := #[.long (47)], vm := .none },
  { cls := 8, slots := #[.long (48)], vm := .none },
  { cls := 8, slots := #[.long (49)], vm := .none },
  { cls := 8, slots := #[.long (50)], vm := .none },
  { cls := 8, slots := #[.long (51)], vm := .none },
  { cls := 8, slots := #[.long (52)], vm := .none },
  { cls := 8, slots := #[.long (53)], vm := .none },
  { cls := 8, slots := #[.long (54)], vm := .none },
  { cls := 8, slots := #[.long (55)], vm := .none },
  { cls := 8, slots := #[.long (56)], vm := .none },
  { cls := 8, slots := #[.long (57)], vm := .none },
  { cls := 8, slots := #[.long (58)], vm := .none },
  { cls := 8, slots := #[.long (59)], vm := .none },
  { cls := 8, slots := #[.long (60)], vm := .none },
  { cls := 8, slots := #[.long (61)], vm := .none },
  { cls := 8, slots := #[.long (62)], vm := .none },
  { cls := 8, slots := #[.long (63)], vm := .none },
  { cls := 8, slots := #[.long (64)], vm := .none },
  { cls := 8, slots := #[.long (65)], vm := .none },
  { cls := 8, slots := #[.long (66)], vm := .none },
  { cls := 8, slots := #[.long (67)], vm := .none },
  { cls := 8, slots := #[.long (68)], vm := .none },
  { cls := 8, slots := #[.long (69)], vm := .none },
  { cls := 8, slots := #[.long (70)], vm := .none },
  { cls := 8, slots := #[.long (71)], vm := .none },
  { cls := 8, slots := #[.long (72)], vm := .none },
  { cls := 8, slots := #[.long (73)], vm := .none },
  { cls := 8, slots := #[.long (74)], vm := .none },
  { cls := 8, slots := #[.long (75)], vm := .none },
  { cls := 8, slots := #[.long (76)], vm := .none },
  { cls := 8, slots := #[.long (77)], vm := .none },
  { cls := 8, slots := #[.long (78)], vm := .none },
  { cls := 8, slots := #[.long (79)], vm := .none },
  { cls := 8, slots := #[.long (80)], vm := .none },
  { cls := 8, slots := #[.long (81)], vm := .none },
  { cls := 8, slots := #[.long (82)], vm := .none },
  { cls := 8, slots := #[.long (83)], vm := .none },
  { cls := 8, slots := #[.long (84)], vm := .none },
  { cls := 8, slots := #[.long (85)], vm := .none },
  { cls := 8, slots := #[.long (86)], vm := .none },
  { cls := 8, slots := #[.long (87)], vm := .none },
  { cls := 8, slots := #[.long (88)], vm := .none },
  { cls := 8, slots := #[.long (89)], vm := .none },
  { cls := 8, slots := #[.long (90)], vm := .none },
  { cls := 8, slots := #[.long (91)], vm := .none },
  { cls := 8, slots := #[.long (92)], vm := .none },
  { cls := 8, slots := #[.long (93)], vm := .none },
  { cls := 8, slots := #[.long (94)], vm := .none },
  { cls := 8, slots := #[.long (95)], vm := .none },
  { cls := 8, slots := #[.long (96)], vm := .none },
  { cls := 8, slots := #[.long (97)], vm := .none },
  { cls := 8, slots := #[.long (98)], vm := .none },
  { cls := 8, slots := #[.long (99)], vm := .none },
  { cls := 8, slots := #[.long (100)], vm := .none },
  { cls := 8, slots := #[.long (101)], vm := .none },
  { cls := 8, slots := #[.long (102)], vm := .none },
  { cls := 8, slots := #[.long (103)], vm := .none },
  { cls := 8, slots := #[.long (104)], vm := .none },
  { cls := 8, slots := #[.long (105)], vm := .none },
  { cls := 8, slots := #[.long (106)], vm := .none },
  { cls := 8, slots := #[.long (107)], vm := .none },
  { cls := 8, slots := #[.long (108)], vm := .none },
  { cls := 8, slots := #[.long (109)], vm := .none },
  { cls := 8, slots := #[.long (110)], vm := .none },
  { cls := 8, slots := #[.long (111)], vm := .none },
  { cls := 8, slots := #[.long (112)], vm := .none },
  { cls := 8, slots := #[.long (113)], vm := .none },
  { cls := 8, slots := #[.long (114)], vm := .none },
  { cls := 8, slots := #[.long (115)], vm := .none },
  { cls := 8, slots := #[.long (116)], vm := .none },
  { cls := 8, slots := #[.long (117)], vm := .none },
  { cls := 8, slots := #[.long (118)], vm := .none },
  { cls := 8, slots := #[.long (119)], vm := .none },
  { cls := 8, slots := #[.long (120)], vm := .none },
  { cls := 8, slots := #[.long (121)], vm := .none },
  { cls := 8, slots := #[.long (122)], vm := .none },
  { cls := 8, slots := #[.long (123)], vm := .none },
  { cls := 8, slots := #[.long (124)], vm := .none },
  { cls := 8, slots := #[.long (125)], vm := .none },
  { cls := 8, slots := #[.long (126)], vm := .none },
  { cls := 8, slots := #[.long (127)], vm := .none }]
def classes : Array Class := #[k0, k1, k2, k3, k4, k5, k6, k7, k8, k9, k10, k11, k12, k13, k14, k15]
def interned : List (Array UInt16 × Addr) := []
def slotsUsed : Nat := 515
def theMethod : MethodId := ⟨1, 1⟩
def args0 : Array Value := #[.long 5, .long 7, .int 0, .int 1, .int 2]
def aboutOver (below : List Frame) : State where
  vm := { classes := classes, interned := interned.toArray }
  heap := heap
  slotsUsed := slotsUsed
  threads := #[{ frames := .invoking theMethod args0 :: below }]
def below0 : List Frame := [.native { method := ⟨0, 0⟩, args := #[] }]
def about1 : State := aboutOver below0
def p0 : Program := .bare "" "" ""
def e0 : Env := launch0.env 0 0 0
theorem w_frames : about1.frames = Frame.invoking theMethod args0 :: below0 := rfl
set_option maxRecDepth 65536 in
theorem w_args : argsFit about1.vm theMethod args0 = true := by decide +kernel
set_option maxRecDepth 65536 in
theorem w_heap : heapFits about1 = true := by decide +kernel
set_option maxRecDepth 65536 in
theorem w_runnable : about1.curStatus? = some .runnable := by decide +kernel
set_option maxRecDepth 65536 in
theorem w_alone : about1.alone = true := by decide +kernel
set_option maxRecDepth 65536 in
theorem w_named : about1.methodNamed? x = some theMethod := by decide +kernel
set_option maxRecDepth 65536 in
theorem w_hears : about1.hears theMethod below0 = true := by decide +kernel
set_option maxRecDepth 65536 in
theorem w_ripe : about1.ripe theMethod args0 below0 = true := by decide +kernel
theorem w_running : about1.status = .running := rfl
set_option maxRecDepth 65536 in
theorem w_room : about1.hasRoom e0.platform room_1 = true :=
  launch0.hasRoom_least _ room_1 (by decide +kernel) (by decide +kernel) (by decide +kernel) (by decide +kernel) (by decide +kernel) (by decide +kernel)
theorem allAtoms_all (ts : List Jvm.Cond) (a : Array Jvm.Value) (st : Jvm.State) : (allAtoms ts).before a st = ts.all (fun c => c.before a st) := by
  induction ts with
  | nil => rfl
  | cons c t ih =>
    show (Jvm.Cond.and c (allAtoms t)).before a st = _
    rw [Jvm.Cond.before_and, ih, List.all_cons]
def words1 : List Jvm.Cond := Jvm.Cond.code x code maxLocals ret :: tables_1
/-- a 'code' word, met by the world's own term for the bytes: nothing is compared byte by byte -/
theorem code_word {y : MethodName} {bytes : ByteArray} {mx : Nat} {rt : Option FieldType} {a : Array Value} {s : State} {m : MethodId} {meth : Method} {c : Code} (h1 : s.methodNamed? y = some m) (h2 : s.vm.method? m = some meth) (h3 : meth.code = some c) (h4 : c.code = bytes)
    (h5 : (c.maxLocals == mx && c.exceptionTable.isEmpty && decide (c.maxStack ≤ mostOperands) && decide (meth.sig.returnType = rt) && !meth.locks && decide (parseMethodDescriptor y.desc = some meth.sig)) = true) : (Jvm.Cond.code y bytes mx rt).before a s = true := by
  simp only [Bool.and_eq_true, beq_iff_eq, Bool.not_eq_true', decide_eq_true_eq] at h5
  obtain ⟨⟨⟨⟨⟨g1, g2⟩, g3⟩, g4⟩, g5⟩, g6⟩ := h5
  simp [Cond.before, Cond.holds, Cond.value, h1, h2, h3, h4, g1, g2, g3, g4, g5, g6]
def isCode : Jvm.Cond → Bool
  | .code _ _ _ _ => true
  | _ => false
theorem all_split {L : List Jvm.Cond} {P : Jvm.Cond → Bool} (h1 : L.all (fun c => isCode c || P c) = true) (h2 : ∀ c ∈ L.filter isCode, P c = true) : L.all P = true := by
  refine List.all_eq_true.mpr fun c hc => ?_
  have h := List.all_eq_true.mp h1 c hc
  rcases Bool.eq_false_or_eq_true (isCode c) with hi | hi
  · exact h2 c (List.mem_filter.mpr ⟨hc, hi⟩)
  · simpa [hi] using h
set_option maxRecDepth 65536 in
theorem w_c0 : (Jvm.Cond.code x code maxLocals ret).before args0 about1 = true := code_word (m := ⟨1, 1⟩) (meth := k1m1) (c := k1c1) (by decide +kernel) rfl rfl rfl (by decide +kernel)
set_option maxRecDepth 65536 in
theorem w_c1 : (Jvm.Cond.code ({ cls := "com/example/tidegraph/tidegraph/graph/User", name := "<init>", desc := "(J[B)V" } : Jvm.MethodName) prog_15_method_1_code (4 : Nat) (Option.none : Option Jvm.ClassFile.FieldType)).before args0 about1 = true := code_word (m := ⟨3, 0⟩) (meth := k3m0) (c := k3c0) (by decide +kernel) rfl rfl rfl (by decide +kernel)
set_option maxRecDepth 65536 in
theorem w_c2 : (Jvm.Cond.code ({ cls := "java/lang/Object", name := "<init>", desc := "()V" } : Jvm.MethodName) object_method_1_code (1 : Nat) (Option.none : Option Jvm.ClassFile.FieldType)).before args0 about1 = true := code_word (m := ⟨0, 0⟩) (meth := k0m0) (c := k0c0) (by decide +kernel) rfl rfl rfl (by decide +kernel)
set_option maxRecDepth 65536 in
theorem w_c3 : (Jvm.Cond.code ({ cls := "com/example/tidegraph/tidegraph/graph/User", name := "equals", desc := "(Ljava/lang/Object;)Z" } : Jvm.MethodName) prog_15_method_8_code (2 : Nat) (Option.some Jvm.ClassFile.FieldType.boolean)).before args0 about1 = true := code_word (m := ⟨3, 1⟩) (meth := k3m1) (c := k3c1) (by decide +kernel) rfl rfl rfl (by decide +kernel)
set_option maxRecDepth 65536 in
theorem w_c4 : (Jvm.Cond.code ({ cls := "java/lang/Long", name := "valueOf", desc := "(J)Ljava/lang/Long;" } : Jvm.MethodName) jdk_35_method_24_code (3 : Nat) (Option.some (Jvm.ClassFile.FieldType.object "java/lang/Long"))).before args0 about1 = true := code_word (m := ⟨8, 0⟩) (meth := k8m0) (c := k8c0) (by decide +kernel) rfl rfl rfl (by decide +kernel)
set_option maxRecDepth 65536 in
theorem w_c5 : (Jvm.Cond.code ({ cls := "java/lang/Long", name := "<init>", desc := "(J)V" } : Jvm.MethodName) jdk_35_method_26_code (3 : Nat) (Option.none : Option Jvm.ClassFile.FieldType)).before args0 about1 = true := code_word (m := ⟨8, 1⟩) (meth := k8m1) (c := k8c1) (by decide +kernel) rfl rfl rfl (by decide +kernel)
set_option maxRecDepth 65536 in
theorem w_c6 : (Jvm.Cond.code ({ cls := "java/lang/Number", name := "<init>", desc := "()V" } : Jvm.MethodName) jdk_18_method_1_code (1 : Nat) (Option.none : Option Jvm.ClassFile.FieldType)).before args0 about1 = true := code_word (m := ⟨5, 0⟩) (meth := k5m0) (c := k5c0) (by decide +kernel) rfl rfl rfl (by decide +kernel)
def codes1 : List Jvm.Cond := [Jvm.Cond.code x code maxLocals ret, Jvm.Cond.code ({ cls := "com/example/tidegraph/tidegraph/graph/User", name := "<init>", desc := "(J[B)V" } : Jvm.MethodName) prog_15_method_1_code (4 : Nat) (Option.none : Option Jvm.ClassFile.FieldType), Jvm.Cond.code ({ cls := "java/lang/Object", name := "<init>", desc := "()V" } : Jvm.MethodName) object_method_1_code (1 : Nat) (Option.none : Option Jvm.ClassFile.FieldType), Jvm.Cond.code ({ cls := "com/example/tidegraph/tidegraph/graph/User", name := "equals", desc := "(Ljava/lang/Object;)Z" } : Jvm.MethodName) prog_15_method_8_code (2 : Nat) (Option.some Jvm.ClassFile.FieldType.boolean), Jvm.Cond.code ({ cls := "java/lang/Long", name := "valueOf", desc := "(J)Ljava/lang/Long;" } : Jvm.MethodName) jdk_35_method_24_code (3 : Nat) (Option.some (Jvm.ClassFile.FieldType.object "java/lang/Long")), Jvm.Cond.code ({ cls := "java/lang/Long", name := "<init>", desc := "(J)V" } : Jvm.MethodName) jdk_35_method_26_code (3 : Nat) (Option.none : Option Jvm.ClassFile.FieldType), Jvm.Cond.code ({ cls := "java/lang/Number", name := "<init>", desc := "()V" } : Jvm.MethodName) jdk_18_method_1_code (1 : Nat) (Option.none : Option Jvm.ClassFile.FieldType)]
set_option maxRecDepth 65536 in
theorem codes_eq : words1.filter isCode = codes1 := rfl
theorem w_codes : ∀ c ∈ words1.filter isCode, c.before args0 about1 = true := by
  rw [codes_eq]
  intro c hc
  simp only [codes1, List.mem_cons, List.not_mem_nil, or_false] at hc
  rcases hc with rfl | rfl | rfl | rfl | rfl | rfl | rfl
  · exact w_c0
  · exact w_c1
  · exact w_c2
  · exact w_c3
  · exact w_c4
  · exact w_c5
  · exact w_c6
set_option maxRecDepth 65536 in
theorem w_t1 : (words1.take 24).all (fun c => isCode c || c.before args0 about1) = true := by decide +kernel
set_option maxRecDepth 65536 in
theorem w_t2 : ((words1.drop 24).take 24).all (fun c => isCode c || c.before args0 about1) = true := by decide +kernel
set_option maxRecDepth 65536 in
theorem w_t3 : ((words1.drop 24).drop 24).all (fun c => isCode c || c.before args0 about1) = true := by decide +kernel
theorem w_tables : (allAtoms (Jvm.Cond.code x code maxLocals ret :: tables_1)).before args0 about1 = true := by
  rw [allAtoms_all]
  show words1.all (fun c => c.before args0 about1) = true
  refine all_split ?_ w_codes
  rw [← List.take_append_drop 24 words1, List.all_append, w_t1, ← List.take_append_drop 24 (words1.drop 24), List.all_append, w_t2, w_t3]
  rfl
set_option maxRecDepth 65536 in
theorem w_rest : rest_1_c.before args0 about1 = true := by decide +kernel
set_option maxRecDepth 65536 in
theorem w_case : (Jvm.Cond.and given_1 narrow_1).before args0 about1 = true := by decide +kernel
theorem w_applies : (headSpec (Jvm.Cond.code x code maxLocals ret :: tables_1) room_1).applies x e0.platform about1 = true :=
  (Spec.applies_iff w_frames).mpr ⟨w_running, w_runnable, w_alone, w_named, w_hears, w_ripe, w_room, w_tables⟩
theorem atStart : AtStart classFile x code maxLocals ret World_1 tables_1 room_1 Calls_1 rest_1 Pre_1 launch0 p0 e0 about1 theMethod args0 below0 :=
  ⟨lists_1, trivial, launch0.admits_env _ _ _, launch0.least_env, fairChoices_fair.cas, fairChoices_fair.clock, w_frames, w_args, w_heap, w_applies, trivial, w_rest, w_case⟩
end start1
theorem witness_1 : WitnessClaimed_1 := ⟨start1.p0, start1.e0, start1.about1, start1.theMethod, start1.args0, start1.below0, start1.atStart⟩
end Jvm.Pilot.@@N@@
