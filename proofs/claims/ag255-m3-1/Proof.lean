import JvmDerived
import JvmDerived.Pilot.@@N@@Statement
import JvmDerived.Pilot.@@N@@Code
set_option linter.unusedVariables false
set_option linter.unusedSimpArgs false
namespace Jvm.Pilot.@@N@@
open Jvm Jvm.ClassFile Sem Op Lib Jvm.Free Jvm.Stand Jvm.LawKit Jvm.RoadKit Bundle Jvm.Pilot.@@N@@.Jvm.D
def Go (p : Program) (e : Env) (below : List Frame) (s : State) (Q : Option Value → Heap → List Loc → Prop) (rc rs : Nat) (S : State) : Prop :=
  ∃ s₂ o, Steps p.tables e below S s₂ ∧ s₂.status = .running ∧ Ended s₂ below o ∧ ∃ v L, o = .returned v ∧ Q v s₂.heap L ∧ FrameEnd s o s₂ L rc rs
section OwnGo
variable {p : Program} {l : Launch} {e : Env} {R : Room} {s : State} {m : MethodId} {args : Array Value} {below : List Frame} {meth : Method} {c : Code} {T : State} {locs : List Loc} {cells slots : Nat} {Q : Option Value → Heap → List Loc → Prop} {rc rs : Nat}
theorem Go.via {S S' : State} (h : ∀ t, Steps p.tables e below S' t → Steps p.tables e below S t) (g : Go p e below s Q rc rs S') : Go p e below s Q rc rs S :=
  let ⟨s₂, o, a, b⟩ := g; ⟨s₂, o, h _ a, b⟩
theorem Go.retI (X : Stand p l e R s m args below meth c T locs cells slots) (hx : p.tables.exec = Jvm.exec) (hlk : meth.locks = false) {pc : Nat} {Ls : Array Slot} {z : Int32} {rest : List Value} (hret : meth.sig.returnType = some .int) (hd : decode c.code pc = .ok (.ireturn, 1))
    (hq : Q (some (.int z)) T.heap locs) (hc : cells ≤ rc) (hs : slots ≤ rs) : Go p e below s Q rc rs (T.setTop (mkF m pc Ls (.int z :: rest))) := by
  obtain ⟨fs, hr, hrun, hended, hW, hsame⟩ := X.leave (v := some (.int z)) (fun h => by rw [hret] at h; cases h)
  exact ⟨_, _, retOut X hx hret rfl (Or.inl ⟨rfl, Or.inl rfl, _, rfl⟩) hd hr, hrun, hended, _, _, rfl, hq, ⟨_, rfl⟩, hW, hsame.mono hc hs⟩
theorem Go.retB (X : Stand p l e R s m args below meth c T locs cells slots) (hx : p.tables.exec = Jvm.exec) (hlk : meth.locks = false) {pc : Nat} {Ls : Array Slot} {z : Int32} {rest : List Value} (hret : meth.sig.returnType = some .boolean) (hd : decode c.code pc = .ok (.ireturn, 1)) (hz : narrow .boolean (.int z) = .int z)
    (hq : Q (some (.int z)) T.heap locs) (hc : cells ≤ rc) (hs : slots ≤ rs) : Go p e below s Q rc rs (T.setTop (mkF m pc Ls (.int z :: rest))) := by
  obtain ⟨fs, hr, hrun, hended, hW, hsame⟩ := X.leave (v := some (.int z)) (fun h => by rw [hret] at h; cases h)
  exact ⟨_, _, retOut X hx hret hz (Or.inl ⟨rfl, Or.inr (Or.inl rfl), _, rfl⟩) hd hr, hrun, hended, _, _, rfl, hq, ⟨_, rfl⟩, hW, hsame.mono hc hs⟩
theorem Go.retC (X : Stand p l e R s m args below meth c T locs cells slots) (hx : p.tables.exec = Jvm.exec) (hlk : meth.locks = false) {pc : Nat} {Ls : Array Slot} {z : Int32} {rest : List Value} (hret : meth.sig.returnType = some .char) (hd : decode c.code pc = .ok (.ireturn, 1)) (hz : narrow .char (.int z) = .int z)
    (hq : Q (some (.int z)) T.heap locs) (hc : cells ≤ rc) (hs : slots ≤ rs) : Go p e below s Q rc rs (T.setTop (mkF m pc Ls (.int z :: rest))) := by
  obtain ⟨fs, hr, hrun, hended, hW, hsame⟩ := X.leave (v := some (.int z)) (fun h => by rw [hret] at h; cases h)
  exact ⟨_, _, retOut X hx hret hz (Or.inl ⟨rfl, Or.inr (Or.inr (Or.inr (Or.inl rfl))), _, rfl⟩) hd hr, hrun, hended, _, _, rfl, hq, ⟨_, rfl⟩, hW, hsame.mono hc hs⟩
theorem Go.retJ (X : Stand p l e R s m args below meth c T locs cells slots) (hx : p.tables.exec = Jvm.exec) (hlk : meth.locks = false) {pc : Nat} {Ls : Array Slot} {z : Int64} {rest : List Value} (hret : meth.sig.returnType = some .long) (hd : decode c.code pc = .ok (.lreturn, 1))
    (hq : Q (some (.long z)) T.heap locs) (hc : cells ≤ rc) (hs : slots ≤ rs) : Go p e below s Q rc rs (T.setTop (mkF m pc Ls (.long z :: rest))) := by
  obtain ⟨fs, hr, hrun, hended, hW, hsame⟩ := X.leave (v := some (.long z)) (fun h => by rw [hret] at h; cases h)
  exact ⟨_, _, retOut X hx hret rfl (Or.inr (Or.inl ⟨rfl, rfl, _, rfl⟩)) hd hr, hrun, hended, _, _, rfl, hq, ⟨_, rfl⟩, hW, hsame.mono hc hs⟩
theorem Go.retA (X : Stand p l e R s m args below meth c T locs cells slots) (hx : p.tables.exec = Jvm.exec) (hlk : meth.locks = false) {pc : Nat} {Ls : Array Slot} {z : Value} {rest : List Value} {t : FieldType} (hret : meth.sig.returnType = some t) (ht : t.isReference = true) (hz : z.isRef = true) (hn : narrow t z = z) (hd : decode c.code pc = .ok (.areturn, 1))
    (hq : Q (some z) T.heap locs) (hc : cells ≤ rc) (hs : slots ≤ rs) : Go p e below s Q rc rs (T.setTop (mkF m pc Ls (z :: rest))) := by
  obtain ⟨fs, hr, hrun, hended, hW, hsame⟩ := X.leave (v := some z) (fun h => by rw [hret] at h; cases h)
  exact ⟨_, _, retOut X hx hret hn (Or.inr (Or.inr (Or.inr (Or.inr ⟨rfl, ht, hz⟩)))) hd hr, hrun, hended, _, _, rfl, hq, ⟨_, rfl⟩, hW, hsame.mono hc hs⟩
theorem Go.retV (X : Stand p l e R s m args below meth c T locs cells slots) (hx : p.tables.exec = Jvm.exec) (hlk : meth.locks = false) {pc : Nat} {Ls : Array Slot} (hret : meth.sig.returnType = none) (hd : decode c.code pc = .ok (.return_, 1))
    (hq : Q none T.heap locs) (hc : cells ≤ rc) (hs : slots ≤ rs) : Go p e below s Q rc rs (T.setTop (mkF m pc Ls [])) := by
  obtain ⟨fs, hr, hrun, hended, hW, hsame⟩ := X.leave (v := none) (fun _ => rfl)
  exact ⟨_, _, X.returnOut hx hret hd hr, hrun, hended, _, _, rfl, hq, ⟨_, rfl⟩, hW, hsame.mono hc hs⟩
def GoW (p : Program) (e : Env) (below : List Frame) (s : State) (Q : Option Value → Heap → List Loc → Prop) (rc rs : Nat) (S : State) : Prop :=
  ∃ s₂ o, Steps p.tables e below S s₂ ∧ s₂.status = .running ∧ Ended s₂ below o ∧ ∃ v L, o = .returned v ∧ Q v s₂.heap L ∧ ReturnedEndW s o s₂ L rc rs
theorem GoW.via {S S' : State} (h : ∀ t, Steps p.tables e below S' t → Steps p.tables e below S t) (g : GoW p e below s Q rc rs S') : GoW p e below s Q rc rs S :=
  let ⟨s₂, o, a, b⟩ := g; ⟨s₂, o, h _ a, b⟩
theorem GoW.retB {vm₁ : Vm} (X : Stand p l e R (s.setVm vm₁) m args below meth c T locs cells slots) (hx : p.tables.exec = Jvm.exec) (hlk : meth.locks = false) {n : Nat} (hS : s.Since vm₁ n) (hn : n ≤ T.heap.size) {pc : Nat} {Ls : Array Slot} {z : Int32} {rest : List Value} (hret : meth.sig.returnType = some .boolean) (hd : decode c.code pc = .ok (.ireturn, 1)) (hz : narrow .boolean (.int z) = .int z)
    (hq : Q (some (.int z)) T.heap locs) (hc : cells ≤ rc) (hs : slots ≤ rs) : GoW p e below s Q rc rs (T.setTop (mkF m pc Ls (.int z :: rest))) := by
  obtain ⟨fs, hr, hrun, hended, hE⟩ := X.leaveW hS hn (v := some (.int z)) (fun h => by rw [hret] at h; cases h)
  exact ⟨_, _, retOut X hx hret hz (Or.inl ⟨rfl, Or.inr (Or.inl rfl), _, rfl⟩) hd hr, hrun, hended, _, _, rfl, hq, hE.1, hE.2.1, hE.2.2.1, hE.2.2.2.mono hc hs⟩
end OwnGo
theorem own_sel {s : State} {args : Array Value} {y : MethodName} {n : Nat} (wi : (Jvm.Cond.instantiable y.cls n).before args s = true) (hpriv : s.PrivateAt y) (hinst : (Jvm.Cond.instanceMethod y).before args s = true) (hy : y.cls ≠ "java/lang/invoke/MethodHandle" ∧ y.cls ≠ "java/lang/invoke/VarHandle") : (Jvm.Cond.selects y.cls y y).before args s = true := by
  obtain ⟨c, k, h1, h2, h3, h4, -⟩ := Cond.instantiable_spec wi
  have h5 : k.isInterface = false := by
    cases hq : k.isInterface
    · rfl
    · rw [hq] at h4; cases h4
  exact Jvm.Stand.selects_self_of_private h1 h2 h5 hpriv hinst hy
theorem own_lc1 {x y : Int64} (h : x < y) : lcmpW x y < 0 := (lw_lt x y).mpr h
theorem own_lc2 {x y : Int64} (h : ¬ x < y) : ¬ lcmpW x y < 0 := fun q => h ((lw_lt x y).mp q)
theorem own_lc3 {x y : Int64} (h : y < x) : 0 < lcmpW x y := (lw_gt x y).mpr h
theorem own_lc4 {x y : Int64} (h : ¬ y < x) : ¬ 0 < lcmpW x y := fun q => h ((lw_gt x y).mp q)
theorem own_lc5 {x y : Int64} (h : x = y) : lcmpW x y = 0 := (lw_eq x y).mpr h
theorem own_lc6 {x y : Int64} (h : ¬ x = y) : ¬ lcmpW x y = 0 := fun q => h ((lw_eq x y).mp q)
theorem own_len {s : State} {args : Array Value} {t : Jvm.Term} {a : Addr} {c : Cell} {z : Int32} (ht : t.eval args s none [] s = some (.ref a)) (hc : s.arrayAt? a = some c) (hl : (Jvm.Term.length t).eval args s none [] s = some (.int z)) : c.slots.size < 2 ^ 31 ∧ c.slots.size.toInt32 = z := by
  simpa [Term.eval, ht, hc] using hl
section OwnMir
variable {p : Program} {l : Launch} {e : Env} {R : Room} {s : State} {m : MethodId} {args : Array Value} {below : List Frame} {meth : Method} {c : Code} {T : State} {locs : List Loc} {cells slots : Nat} {Z : State} {h : Heap} {a : Addr}
theorem own_gc (X : Stand p l e R s m args below meth c T locs cells slots) (hx : p.tables.exec = Jvm.exec) (hZ : Z.Warmed39 s.vm) {a0 : Array Value} {own C : String} {index : Nat} (hown : s.vm.findClass own = some m.cls)
    (w1 : (Jvm.Cond.methodLink own index ⟨"java/lang/Object", "getClass", "()Ljava/lang/Class;"⟩).before a0 Z = true) (w2 : (Jvm.Cond.declares ⟨"java/lang/Object", "getClass", "()Ljava/lang/Class;"⟩).before a0 Z = true) (w4 : (Jvm.Cond.selects C ⟨"java/lang/Object", "getClass", "()Ljava/lang/Class;"⟩ ⟨"java/lang/Object", "getClass", "()Ljava/lang/Class;"⟩).before a0 Z = true)
    (w5 : (Jvm.Cond.instanceMethod ⟨"java/lang/Object", "getClass", "()Ljava/lang/Class;"⟩).before a0 Z = true) (w6 : (Jvm.Cond.native ⟨"java/lang/Object", "getClass", "()Ljava/lang/Class;"⟩).before a0 Z = true) (eT : T.heap = h) (E : Exa Z h a C) {mr : Addr} (M : Mir Z C mr)
    {g : JFrame} (hg : g.method = m) (hsize : g.locals.size = c.maxLocals) {rest : List Value} (hs : g.stack = .ref a :: rest) (hd : decode c.code g.pc = .ok (.invokevirtual index, 3)) (hf : 1 ≤ R.frames) {W : Nat} (hW : 2 * g.monitorRoom + (rest.map fun v => v.category).sum ≤ W) (hl : W + (nativeFrameWords "java/lang/Object" "getClass" 1 + 11) ≤ R.locals) :
    ∃ T', Stand p l e R s m args below meth c T' locs cells slots ∧ T'.heap = h ∧ ∀ target, Steps p.tables e below (T'.setTop { g with pc := g.pc + 3, stack := .ref mr :: rest }) target → Steps p.tables e below (T.setTop g) target := by
  obtain ⟨cB, kB, i1, i2, i3⟩ := isOf hZ eT E
  obtain ⟨cc, kc, m1, m2, m3, -⟩ := M
  rw [hZ.alike.findClass] at i1
  cases i1.symm.trans m1
  obtain ⟨k', q, ek⟩ := hZ.alike.2.2 _ _ m2
  obtain ⟨vm', X', st⟩ := X.getClassOf hx hown (mvT hZ w1) (mvT hZ w2) (notFace_of_selects (args := #[]) (mvT hZ w4)) (mvT hZ w4) (mvT hZ w5) (mvT hZ w6) (by rw [hZ.alike.findClass]; exact m1) i3 q (by rw [ek]; exact m3) hg hsize hs hd hf (by omega)
  exact ⟨_, X', eT, st⟩
theorem own_ldcm (X : Stand p l e R s m args below meth c T locs cells slots) (hx : p.tables.exec = Jvm.exec) (hZ : Z.Warmed39 s.vm) {a0 : Array Value} {own C : String} {index : Nat} (hown : s.vm.findClass own = some m.cls) (w : (Jvm.Cond.classLink own index C).before a0 Z = true) (eT : T.heap = h) {mr : Addr} (M : Mir Z C mr)
    {g : JFrame} (hg : g.method = m) (hd : decode c.code g.pc = .ok (.ldc index, 2)) : ∃ T', Stand p l e R s m args below meth c T' locs cells slots ∧ T'.heap = h ∧ ∀ target, Steps p.tables e below (T'.setTop { g with pc := g.pc + 2, stack := .ref mr :: g.stack }) target → Steps p.tables e below (T.setTop g) target := by
  obtain ⟨cc, kc, m1, m2, m3, -⟩ := M
  obtain ⟨k', q, ek⟩ := hZ.alike.2.2 _ _ m2
  have h1 : s.vm.findClass C = some cc := by rw [hZ.alike.findClass]; exact m1
  have h3 : k'.mirror = some mr := by rw [ek]; exact m3
  obtain ⟨vm', X', st⟩ := X.ldcMirror hx hown (mvT hZ w) (a := mr) (by simp [Term.eval, h1, q, h3]) hg hd
  exact ⟨_, X', eT, st⟩
end OwnMir
theorem own_ciI {q : Int32} (h1 : ¬ q < (-128 : Int32)) (h2 : ¬ (127 : Int32) < q) : ¬ (q + (128 : Int32)) < 0 ∧ (q + (128 : Int32)) < 256 := by
  rw [Int32.lt_iff_toInt_lt] at h1 h2
  have e1 : (-128 : Int32).toInt = -128 := by decide
  have e2 : (127 : Int32).toInt = 127 := by decide
  have c := c_iadd q 128
  have d := rng32 (q + 128)
  have e3 : (128 : Int32).toInt = 128 := by decide
  have e4 : (0 : Int32).toInt = 0 := by decide
  have e5 : (256 : Int32).toInt = 256 := by decide
  rw [Int32.lt_iff_toInt_lt, Int32.lt_iff_toInt_lt]
  omega
theorem own_nc (x : Int32) : (x + (128 : Int32)) - 128 = x := Int32.add_sub_cancel ..
theorem d10_0 : decode jdk_29_method_69_code 0 = .ok (.iload_n 0, 1) := by decide +kernel
theorem d10_1 : decode jdk_29_method_69_code 1 = .ok (.iload_n 1, 1) := by decide +kernel
theorem d10_2 : decode jdk_29_method_69_code 2 = .ok (.if_icmp .gt 7, 3) := by decide +kernel
theorem d10_9 : decode jdk_29_method_69_code 9 = .ok (.iload_n 1, 1) := by decide +kernel
theorem d10_10 : decode jdk_29_method_69_code 10 = .ok (.ireturn, 1) := by decide +kernel
theorem d10_5 : decode jdk_29_method_69_code 5 = .ok (.iload_n 0, 1) := by decide +kernel
theorem d10_6 : decode jdk_29_method_69_code 6 = .ok (.goto 4, 3) := by decide +kernel
theorem ef_10 (m : MethodId) (x0 : Int32) (x1 : Int32) : entryFrame m #[(.int x0), (.int x1)] 2 = mkF m 0 #[.val (.int x0), .val (.int x1)] [] := by first | (simp [entryFrame, mkF, argsToLocals, Value.category]; done) | rfl
def Q10 (Z : State) (p1 : Int32) (p2 : Int32) (h0 : Heap) (n0 : Nat) (v : Option Value) (h : Heap) (L : List Loc) : Prop := ∃ r : Int32, v = some (.int r) ∧ Fr n0 L ∧ h = h0 ∧ r.toInt = min p1.toInt p2.toInt
set_option maxRecDepth 65536 in
set_option maxHeartbeats 40000000 in
theorem rm10 (l : Launch) (Z : State) (a0 : Array Value) (hw : ∀ d ∈ tables_1, d.before a0 Z = true) (ws : List Jvm.Cond) (p1 : Int32) (p2 : Int32) (h0 : Heap) (n0 : Nat) (Z0 : n0 ≤ h0.size) :
    MetFree l (⟨"java/lang/Math", "min", "(II)I"⟩ : MethodName) (head1 (Jvm.Cond.code (⟨"java/lang/Math", "min", "(II)I"⟩ : MethodName) jdk_29_method_69_code 2 (some .int) :: ws) ({ frames := 0, cells := 0, slots := 0, locals := 0 } : Room)) (fun a U => a = #[(.int p1), (.int p2)] ∧ Z.Warmed39 U.vm ∧ U.heap = h0) (fun _ _ _ _ _ => True) (fun _ U o U' => ∃ v L, o = .returned v ∧ Q10 Z p1 p2 h0 n0 v U'.heap L ∧ FrameEnd U o U' L ({ frames := 0, cells := 0, slots := 0, locals := 0 } : Room).cells ({ frames := 0, cells := 0, slots := 0, locals := 0 } : Room).slots) := by
  refine MetFree.of_bodySF (Jvm.Free.JP.mathPlain rfl (by decide +kernel)) hisR ?_
  intro p e s m args below meth c s₁ Bd hml0 hP hK
  obtain ⟨rfl, hZ, hh⟩ := hP
  have hx := Bd.exec
  have hby := Bd.bytes
  have hml : c.maxLocals = 2 := hml0
  have hown : s.vm.findClass "java/lang/Math" = some m.cls := findClass_of_methodNamed Bd.named
  have hnm := (name_of_methodNamed Bd.named Bd.method).1
  have X0 : Stand p l e ({ frames := 0, cells := 0, slots := 0, locals := 0 } : Room) s m #[(.int p1), (.int p2)] below meth c s₁ [] 0 0 := Stand.of_body Bd
  have e0 : s₁.heap = h0 := by rw [← hh, Bd.state]; rfl
  have N0 := Fr.nil n0
  show Go p e below s (Q10 Z p1 p2 h0 n0) ({ frames := 0, cells := 0, slots := 0, locals := 0 } : Room).cells ({ frames := 0, cells := 0, slots := 0, locals := 0 } : Room).slots _
  refine Go.via (S' := s₁.setTop (mkF m 0 #[.val (.int p1), .val (.int p2)] [])) (fun t k => castTop (ef_10 m p1 p2) k) ?_
  refine Go.via (S' := s₁.setTop (mkF m 1 #[.val (.int p1), .val (.int p2)] [(.int p1)])) (fun _ k => XS.iloadN X0.here hx rfl (hb hby d10_0) rfl k) ?_
  refine Go.via (S' := s₁.setTop (mkF m 2 #[.val (.int p1), .val (.int p2)] [(.int p2), (.int p1)])) (fun _ k => XS.iloadN X0.here hx rfl (hb hby d10_1) rfl k) ?_
  rcases Decidable.em (p2 < p1) with hc2 | hc2
  · refine Go.via (S' := s₁.setTop (mkF m 9 #[.val (.int p1), .val (.int p2)] [])) (fun _ k => XS.icmpYes X0.here hx rfl (pc0 := 2) (pc' := 9) rfl (hb hby d10_2) rfl (tlt hc2).2.2.1 (by decide) (by decide) k) ?_
    refine Go.via (S' := s₁.setTop (mkF m 10 #[.val (.int p1), .val (.int p2)] [(.int p2)])) (fun _ k => XS.iloadN X0.here hx rfl (hb hby d10_9) rfl k) ?_
    exact Go.retI X0 hx (BodyLoose.notSynchronized Bd) Bd.returns (hb hby d10_10) (by rw [e0]; exact ⟨_, rfl, N0, rfl, by rw [Int32.lt_iff_toInt_lt] at hc2; omega⟩) (by decide) (by decide)
  · refine Go.via (S' := s₁.setTop (mkF m 5 #[.val (.int p1), .val (.int p2)] [])) (fun _ k => XS.icmpNo X0.here hx rfl (hb hby d10_2) rfl (flt hc2).2.2.1 k) ?_
    refine Go.via (S' := s₁.setTop (mkF m 6 #[.val (.int p1), .val (.int p2)] [(.int p1)])) (fun _ k => XS.iloadN X0.here hx rfl (hb hby d10_5) rfl k) ?_
    refine Go.via (S' := s₁.setTop (mkF m 10 #[.val (.int p1), .val (.int p2)] [(.int p1)])) (fun _ k => XS.goto X0.here hx rfl (pc0 := 6) (pc' := 10) rfl (hb hby d10_6) (by decide) (by decide) k) ?_
    exact Go.retI X0 hx (BodyLoose.notSynchronized Bd) Bd.returns (hb hby d10_10) (by rw [e0]; exact ⟨_, rfl, N0, rfl, by rw [Int32.lt_iff_toInt_lt] at hc2; omega⟩) (by decide) (by decide)
theorem d7_0 : decode jdk_29_method_65_code 0 = .ok (.iload_n 0, 1) := by decide +kernel
theorem d7_1 : decode jdk_29_method_65_code 1 = .ok (.iload_n 1, 1) := by decide +kernel
theorem d7_2 : decode jdk_29_method_65_code 2 = .ok (.if_icmp .lt 7, 3) := by decide +kernel
theorem d7_9 : decode jdk_29_method_65_code 9 = .ok (.iload_n 1, 1) := by decide +kernel
theorem d7_10 : decode jdk_29_method_65_code 10 = .ok (.ireturn, 1) := by decide +kernel
theorem d7_5 : decode jdk_29_method_65_code 5 = .ok (.iload_n 0, 1) := by decide +kernel
theorem d7_6 : decode jdk_29_method_65_code 6 = .ok (.goto 4, 3) := by decide +kernel
theorem ef_7 (m : MethodId) (x0 : Int32) (x1 : Int32) : entryFrame m #[(.int x0), (.int x1)] 2 = mkF m 0 #[.val (.int x0), .val (.int x1)] [] := by first | (simp [entryFrame, mkF, argsToLocals, Value.category]; done) | rfl
def Q7 (Z : State) (p1 : Int32) (p2 : Int32) (h0 : Heap) (n0 : Nat) (v : Option Value) (h : Heap) (L : List Loc) : Prop := ∃ r : Int32, v = some (.int r) ∧ Fr n0 L ∧ h = h0 ∧ r.toInt = max p1.toInt p2.toInt
set_option maxRecDepth 65536 in
set_option maxHeartbeats 40000000 in
theorem rm7 (l : Launch) (Z : State) (a0 : Array Value) (hw : ∀ d ∈ tables_1, d.before a0 Z = true) (ws : List Jvm.Cond) (p1 : Int32) (p2 : Int32) (h0 : Heap) (n0 : Nat) (Z0 : n0 ≤ h0.size) :
    MetFree l (⟨"java/lang/Math", "max", "(II)I"⟩ : MethodName) (head1 (Jvm.Cond.code (⟨"java/lang/Math", "max", "(II)I"⟩ : MethodName) jdk_29_method_65_code 2 (some .int) :: ws) ({ frames := 0, cells := 0, slots := 0, locals := 0 } : Room)) (fun a U => a = #[(.int p1), (.int p2)] ∧ Z.Warmed39 U.vm ∧ U.heap = h0) (fun _ _ _ _ _ => True) (fun _ U o U' => ∃ v L, o = .returned v ∧ Q7 Z p1 p2 h0 n0 v U'.heap L ∧ FrameEnd U o U' L ({ frames := 0, cells := 0, slots := 0, locals := 0 } : Room).cells ({ frames := 0, cells := 0, slots := 0, locals := 0 } : Room).slots) := by
  refine MetFree.of_bodySF (Jvm.Free.JP.mathPlain rfl (by decide +kernel)) hisR ?_
  intro p e s m args below meth c s₁ Bd hml0 hP hK
  obtain ⟨rfl, hZ, hh⟩ := hP
  have hx := Bd.exec
  have hby := Bd.bytes
  have hml : c.maxLocals = 2 := hml0
  have hown : s.vm.findClass "java/lang/Math" = some m.cls := findClass_of_methodNamed Bd.named
  have hnm := (name_of_methodNamed Bd.named Bd.method).1
  have X0 : Stand p l e ({ frames := 0, cells := 0, slots := 0, locals := 0 } : Room) s m #[(.int p1), (.int p2)] below meth c s₁ [] 0 0 := Stand.of_body Bd
  have e0 : s₁.heap = h0 := by rw [← hh, Bd.state]; rfl
  have N0 := Fr.nil n0
  show Go p e below s (Q7 Z p1 p2 h0 n0) ({ frames := 0, cells := 0, slots := 0, locals := 0 } : Room).cells ({ frames := 0, cells := 0, slots := 0, locals := 0 } : Room).slots _
  refine Go.via (S' := s₁.setTop (mkF m 0 #[.val (.int p1), .val (.int p2)] [])) (fun t k => castTop (ef_7 m p1 p2) k) ?_
  refine Go.via (S' := s₁.setTop (mkF m 1 #[.val (.int p1), .val (.int p2)] [(.int p1)])) (fun _ k => XS.iloadN X0.here hx rfl (hb hby d7_0) rfl k) ?_
  refine Go.via (S' := s₁.setTop (mkF m 2 #[.val (.int p1), .val (.int p2)] [(.int p2), (.int p1)])) (fun _ k => XS.iloadN X0.here hx rfl (hb hby d7_1) rfl k) ?_
  rcases Decidable.em (p1 < p2) with hc2 | hc2
  · refine Go.via (S' := s₁.setTop (mkF m 9 #[.val (.int p1), .val (.int p2)] [])) (fun _ k => XS.icmpYes X0.here hx rfl (pc0 := 2) (pc' := 9) rfl (hb hby d7_2) rfl (tlt hc2).1 (by decide) (by decide) k) ?_
    refine Go.via (S' := s₁.setTop (mkF m 10 #[.val (.int p1), .val (.int p2)] [(.int p2)])) (fun _ k => XS.iloadN X0.here hx rfl (hb hby d7_9) rfl k) ?_
    exact Go.retI X0 hx (BodyLoose.notSynchronized Bd) Bd.returns (hb hby d7_10) (by rw [e0]; exact ⟨_, rfl, N0, rfl, by rw [Int32.lt_iff_toInt_lt] at hc2; omega⟩) (by decide) (by decide)
  · refine Go.via (S' := s₁.setTop (mkF m 5 #[.val (.int p1), .val (.int p2)] [])) (fun _ k => XS.icmpNo X0.here hx rfl (hb hby d7_2) rfl (flt hc2).1 k) ?_
    refine Go.via (S' := s₁.setTop (mkF m 6 #[.val (.int p1), .val (.int p2)] [(.int p1)])) (fun _ k => XS.iloadN X0.here hx rfl (hb hby d7_5) rfl k) ?_
    refine Go.via (S' := s₁.setTop (mkF m 10 #[.val (.int p1), .val (.int p2)] [(.int p1)])) (fun _ k => XS.goto X0.here hx rfl (pc0 := 6) (pc' := 10) rfl (hb hby d7_6) (by decide) (by decide) k) ?_
    exact Go.retI X0 hx (BodyLoose.notSynchronized Bd) Bd.returns (hb hby d7_10) (by rw [e0]; exact ⟨_, rfl, N0, rfl, by rw [Int32.lt_iff_toInt_lt] at hc2; omega⟩) (by decide) (by decide)
theorem d15_0 : decode jdk_18_method_1_code 0 = .ok (.aload_n 0, 1) := by decide +kernel
theorem d15_1 : decode jdk_18_method_1_code 1 = .ok (.invokespecial 1, 3) := by decide +kernel
theorem d15_4 : decode jdk_18_method_1_code 4 = .ok (.return_, 1) := by decide +kernel
theorem pn_0 : plainName "java/lang/Number" = true := by first | (simp [plainName, overriddenIn]; done) | decide +kernel
theorem ef_15 (m : MethodId) (x0 : Addr) : entryFrame m #[(.ref x0)] 1 = mkF m 0 #[.val (.ref x0)] [] := by first | (simp [entryFrame, mkF, argsToLocals, Value.category]; done) | rfl
def Q15 (Z : State) (a1 : Addr) (h0 : Heap) (n0 : Nat) (v : Option Value) (h : Heap) (L : List Loc) : Prop := v = none ∧ Fr n0 L ∧ h = h0
set_option maxRecDepth 65536 in
set_option maxHeartbeats 40000000 in
theorem rm15 (l : Launch) (Z : State) (a0 : Array Value) (hw : ∀ d ∈ tables_1, d.before a0 Z = true) (ws : List Jvm.Cond) (a1 : Addr) (h0 : Heap) (n0 : Nat) (Z0 : n0 ≤ h0.size) :
    MetFree l (⟨"java/lang/Number", "<init>", "()V"⟩ : MethodName) (head1 (Jvm.Cond.code (⟨"java/lang/Number", "<init>", "()V"⟩ : MethodName) jdk_18_method_1_code 1 none :: ws) ({ frames := 1, cells := 0, slots := 0, locals := 12 } : Room)) (fun a U => a = #[(.ref a1)] ∧ Z.Warmed39 U.vm ∧ U.heap = h0) (fun _ _ _ _ _ => True) (fun _ U o U' => ∃ v L, o = .returned v ∧ Q15 Z a1 h0 n0 v U'.heap L ∧ FrameEnd U o U' L ({ frames := 1, cells := 0, slots := 0, locals := 12 } : Room).cells ({ frames := 1, cells := 0, slots := 0, locals := 12 } : Room).slots) := by
  refine MetFree.of_bodySF (plainFor_of_name pn_0) hisR ?_
  intro p e s m args below meth c s₁ Bd hml0 hP hK
  obtain ⟨rfl, hZ, hh⟩ := hP
  have hx := Bd.exec
  have hby := Bd.bytes
  have hml : c.maxLocals = 1 := hml0
  have hown : s.vm.findClass "java/lang/Number" = some m.cls := findClass_of_methodNamed Bd.named
  have hnm := (name_of_methodNamed Bd.named Bd.method).1
  have X0 : Stand p l e ({ frames := 1, cells := 0, slots := 0, locals := 12 } : Room) s m #[(.ref a1)] below meth c s₁ [] 0 0 := Stand.of_body Bd
  have e0 : s₁.heap = h0 := by rw [← hh, Bd.state]; rfl
  have N0 := Fr.nil n0
  show Go p e below s (Q15 Z a1 h0 n0) ({ frames := 1, cells := 0, slots := 0, locals := 12 } : Room).cells ({ frames := 1, cells := 0, slots := 0, locals := 12 } : Room).slots _
  refine Go.via (S' := s₁.setTop (mkF m 0 #[.val (.ref a1)] [])) (fun t k => castTop (ef_15 m a1) k) ?_
  refine Go.via (S' := s₁.setTop (mkF m 1 #[.val (.ref a1)] [(.ref a1)])) (fun _ k => XS.aloadN X0.here hx rfl (hb hby d15_0) rfl rfl k) ?_
  obtain ⟨T1, X1, e1, st1⟩ := initO X0 hx hZ hown (hw _ (List.mem_of_getElem? (i := 100) rfl)) (hw _ (List.mem_of_getElem? (i := 19) rfl)) (hw _ (List.mem_of_getElem? (i := 20) rfl)) e0 (g := (mkF m 1 #[.val (.ref a1)] [(.ref a1)])) rfl (by rw [hml]; rfl) rfl (hb hby d15_1) (by decide) (W := 0) (by show 2 * 0 + _ ≤ _; exact Nat.le_of_eq rfl) (by decide)
  refine Go.via (S' := T1.setTop (mkF m 4 #[.val (.ref a1)] [])) (fun _ k => st1 _ k) ?_
  exact Go.retV X1 hx (BodyLoose.notSynchronized Bd) Bd.returns (hb hby d15_4) (by rw [e1]; exact ⟨rfl, N0, rfl⟩) (by decide) (by decide)
theorem d14_0 : decode jdk_33_method_23_code 0 = .ok (.aload_n 0, 1) := by decide +kernel
theorem d14_1 : decode jdk_33_method_23_code 1 = .ok (.invokespecial 202, 3) := by decide +kernel
theorem pd_0 : parseMethodDescriptor "()V" = some ⟨[], none⟩ := by decide +kernel
theorem d14_4 : decode jdk_33_method_23_code 4 = .ok (.aload_n 0, 1) := by decide +kernel
theorem d14_5 : decode jdk_33_method_23_code 5 = .ok (.iload_n 1, 1) := by decide +kernel
theorem d14_6 : decode jdk_33_method_23_code 6 = .ok (.putfield 205, 3) := by decide +kernel
theorem d14_9 : decode jdk_33_method_23_code 9 = .ok (.return_, 1) := by decide +kernel
theorem pn_1 : plainName "java/lang/Integer" = true := by first | (simp [plainName, overriddenIn]; done) | decide +kernel
theorem ef_14 (m : MethodId) (x0 : Addr) (x1 : Int32) : entryFrame m #[(.ref x0), (.int x1)] 2 = mkF m 0 #[.val (.ref x0), .val (.int x1)] [] := by first | (simp [entryFrame, mkF, argsToLocals, Value.category]; done) | rfl
def Q14 (Z : State) (a1 : Addr) (p2 : Int32) (h0 : Heap) (n0 : Nat) (v : Option Value) (h : Heap) (L : List Loc) : Prop := v = none ∧ Fr n0 L ∧ Keep h0 h [a1] ∧ Fld Z h a1 "java/lang/Integer" "value" "I" (.int p2)
set_option maxRecDepth 65536 in
set_option maxHeartbeats 40000000 in
theorem rm14 (l : Launch) (Z : State) (a0 : Array Value) (hw : ∀ d ∈ tables_1, d.before a0 Z = true) (ws : List Jvm.Cond) (a1 : Addr) (p2 : Int32) (h0 : Heap) (n0 : Nat) (Z0 : n0 ≤ h0.size) (E1 : Exa Z h0 a1 "java/lang/Integer") (F1 : Fld Z h0 a1 "java/lang/Integer" "value" "I" (.int (0 : Int32))) (g1 : n0 ≤ a1) :
    MetFree l (⟨"java/lang/Integer", "<init>", "(I)V"⟩ : MethodName) (head1 (Jvm.Cond.code (⟨"java/lang/Integer", "<init>", "(I)V"⟩ : MethodName) jdk_33_method_23_code 2 none :: ws) ({ frames := 2, cells := 0, slots := 0, locals := 24 } : Room)) (fun a U => a = #[(.ref a1), (.int p2)] ∧ Z.Warmed39 U.vm ∧ U.heap = h0) (fun _ _ _ _ _ => True) (fun _ U o U' => ∃ v L, o = .returned v ∧ Q14 Z a1 p2 h0 n0 v U'.heap L ∧ FrameEnd U o U' L ({ frames := 2, cells := 0, slots := 0, locals := 24 } : Room).cells ({ frames := 2, cells := 0, slots := 0, locals := 24 } : Room).slots) := by
  refine MetFree.of_bodySF (plainFor_of_name pn_1) hisR ?_
  intro p e s m args below meth c s₁ Bd hml0 hP hK
  obtain ⟨rfl, hZ, hh⟩ := hP
  have hx := Bd.exec
  have hby := Bd.bytes
  have hml : c.maxLocals = 2 := hml0
  have hown : s.vm.findClass "java/lang/Integer" = some m.cls := findClass_of_methodNamed Bd.named
  have hnm := (name_of_methodNamed Bd.named Bd.method).1
  have X0 : Stand p l e ({ frames := 2, cells := 0, slots := 0, locals := 24 } : Room) s m #[(.ref a1), (.int p2)] below meth c s₁ [] 0 0 := Stand.of_body Bd
  have e0 : s₁.heap = h0 := by rw [← hh, Bd.state]; rfl
  have N0 := Fr.nil n0
  show Go p e below s (Q14 Z a1 p2 h0 n0) ({ frames := 2, cells := 0, slots := 0, locals := 24 } : Room).cells ({ frames := 2, cells := 0, slots := 0, locals := 24 } : Room).slots _
  refine Go.via (S' := s₁.setTop (mkF m 0 #[.val (.ref a1), .val (.int p2)] [])) (fun t k => castTop (ef_14 m a1 p2) k) ?_
  refine Go.via (S' := s₁.setTop (mkF m 1 #[.val (.ref a1), .val (.int p2)] [(.ref a1)])) (fun _ k => XS.aloadN X0.here hx rfl (hb hby d14_0) rfl rfl k) ?_
  obtain ⟨_, _, ⟨T1, L1, k1, n1⟩, -, X1, ⟨Lc1, hQ1, l1, y1, z1⟩, st1⟩ := X0.specialBack hx (y := (⟨"java/lang/Number", "<init>", "()V"⟩ : MethodName)) rfl hown (mvT hZ (hw _ (List.mem_of_getElem? (i := 94) rfl))) (mvT hZ (hw _ (List.mem_of_getElem? (i := 95) rfl))) (mvT hZ (hw _ (List.mem_of_getElem? (i := 99) rfl))) (by decide) (backOf (W := 0) (rm15 l Z a0 hw [] a1 h0 n0 Z0) hZ (hw _ (List.mem_of_getElem? (i := 99) rfl)) (hw _ (List.mem_of_getElem? (i := 98) rfl)) (by decide) (by decide)) (g := (mkF m 1 #[.val (.ref a1), .val (.int p2)] [(.ref a1)])) rfl (by rw [hml]; rfl) (Steps.refl _) (a := a1) (argsL := []) (rest := []) (lenOf pd_0 rfl) rfl (by show 2 * 0 + _ ≤ _; exact Nat.le_of_eq rfl) (hb hby d14_1) (fun _ _ => ⟨rfl, e0, (by decide : 0 + 0 ≤ _), (by decide : 0 + 0 ≤ _)⟩)
  dsimp only [Pt.U, Pt.locs, Pt.cells, Pt.slots] at X1 l1 y1 z1 st1 hQ1
  subst l1 y1 z1
  obtain ⟨rfl, N1q, e1⟩ := hQ1
  have N2 := Fr.app N0 N1q
  refine Go.via (S' := T1.setTop (mkF m 4 #[.val (.ref a1), .val (.int p2)] [])) (fun _ k => st1.trans k) ?_
  refine Go.via (S' := T1.setTop (mkF m 5 #[.val (.ref a1), .val (.int p2)] [(.ref a1)])) (fun _ k => XS.aloadN X1.here hx rfl (hb hby d14_4) rfl rfl k) ?_
  refine Go.via (S' := T1.setTop (mkF m 6 #[.val (.ref a1), .val (.int p2)] [(.int p2), (.ref a1)])) (fun _ k => XS.iloadN X1.here hx rfl (hb hby d14_5) rfl k) ?_
  obtain ⟨T3, h3, X3, e3, W3, st3⟩ := putF X1 hx hZ hown (host := "") (Or.inl (hw _ (List.mem_of_getElem? (i := 87) rfl))) Via.refl e1 F1 E1 (Or.inr ⟨(hw _ (List.mem_of_getElem? (i := 88) rfl)), rfl, hnm⟩) (hw _ (List.mem_of_getElem? (i := 90) rfl)) (ty := .int) (by decide) rfl rfl (g := (mkF m 6 #[.val (.ref a1), .val (.int p2)] [(.int p2), (.ref a1)])) rfl rfl (hb hby d14_6)
  have N4 := Fr.snoc X3 N2 g1
  have f5 := E1.wr W3
  have f6 := F1.same W3
  have z7 := Nat.le_trans Z0 (Keep.of_wr W3).1
  have K8 := (Keep.refl h0 [a1]).wr W3 (Or.inl (List.mem_of_getElem? (i := 0) rfl))
  refine Go.via (S' := T3.setTop (mkF m 9 #[.val (.ref a1), .val (.int p2)] [])) (fun _ k => st3 _ k) ?_
  exact Go.retV X3 hx (BodyLoose.notSynchronized Bd) Bd.returns (hb hby d14_9) (by rw [e3]; exact ⟨rfl, N4, K8, f6⟩) (by decide) (by decide)
theorem d5_0 : decode jdk_33_method_22_code 0 = .ok (.iload_n 0, 1) := by decide +kernel
theorem d5_1 : decode jdk_33_method_22_code 1 = .ok (.bipush (-128), 2) := by decide +kernel
theorem d5_3 : decode jdk_33_method_22_code 3 = .ok (.if_icmp .lt 20, 3) := by decide +kernel
theorem d5_23 : decode jdk_33_method_22_code 23 = .ok (.new 1, 3) := by decide +kernel
theorem d5_26 : decode jdk_33_method_22_code 26 = .ok (.dup, 1) := by decide +kernel
theorem d5_27 : decode jdk_33_method_22_code 27 = .ok (.iload_n 0, 1) := by decide +kernel
theorem d5_28 : decode jdk_33_method_22_code 28 = .ok (.invokespecial 199, 3) := by decide +kernel
theorem pd_1 : parseMethodDescriptor "(I)V" = some ⟨[.int], none⟩ := by decide +kernel
theorem d5_31 : decode jdk_33_method_22_code 31 = .ok (.areturn, 1) := by decide +kernel
theorem d5_6 : decode jdk_33_method_22_code 6 = .ok (.iload_n 0, 1) := by decide +kernel
theorem d5_7 : decode jdk_33_method_22_code 7 = .ok (.getstatic 191, 3) := by decide +kernel
theorem d5_10 : decode jdk_33_method_22_code 10 = .ok (.if_icmp .gt 13, 3) := by decide +kernel
theorem d5_13 : decode jdk_33_method_22_code 13 = .ok (.getstatic 195, 3) := by decide +kernel
theorem d5_16 : decode jdk_33_method_22_code 16 = .ok (.iload_n 0, 1) := by decide +kernel
theorem d5_17 : decode jdk_33_method_22_code 17 = .ok (.sipush 128, 3) := by decide +kernel
theorem d5_20 : decode jdk_33_method_22_code 20 = .ok (.iadd, 1) := by decide +kernel
theorem d5_21 : decode jdk_33_method_22_code 21 = .ok (.aaload, 1) := by decide +kernel
theorem d5_22 : decode jdk_33_method_22_code 22 = .ok (.areturn, 1) := by decide +kernel
theorem ef_5 (m : MethodId) (x0 : Int32) : entryFrame m #[(.int x0)] 1 = mkF m 0 #[.val (.int x0)] [] := by first | (simp [entryFrame, mkF, argsToLocals, Value.category]; done) | rfl
def Q5 (Z : State) (p1 : Int32) (ca : Addr) (cc : Cell) (h0 : Heap) (n0 : Nat) (v : Option Value) (h : Heap) (L : List Loc) : Prop := ∃ r : Addr, v = some (.ref r) ∧ Fr n0 L ∧ Keep h0 h [] ∧ Exa Z h r "java/lang/Integer" ∧ Fld Z h r "java/lang/Integer" "value" "I" (.int p1)
set_option maxRecDepth 65536 in
set_option maxHeartbeats 40000000 in
theorem rm5 (l : Launch) (Z : State) (a0 : Array Value) (hw : ∀ d ∈ tables_1, d.before a0 Z = true) (ws : List Jvm.Cond) (p1 : Int32) (ca : Addr) (cc : Cell) (h0 : Heap) (n0 : Nat) (Z0 : n0 ≤ h0.size) (X00 : Old Z n0 h0) (Sh : Sta Z Z.heap "java/lang/Integer$IntegerCache" "high" "I" (.int 127)) (Sc : Sta Z Z.heap "java/lang/Integer$IntegerCache" "cache" "[Ljava/lang/Integer;" (.ref ca)) (Bc : Bxs Z ca cc "java/lang/Integer" "I" 256 (fun j => .int (j - 128))) :
    MetFree l (⟨"java/lang/Integer", "valueOf", "(I)Ljava/lang/Integer;"⟩ : MethodName) (head1 (Jvm.Cond.code (⟨"java/lang/Integer", "valueOf", "(I)Ljava/lang/Integer;"⟩ : MethodName) jdk_33_method_22_code 1 (some (.object "java/lang/Integer")) :: ws) ({ frames := 3, cells := 1, slots := 1, locals := 38 } : Room)) (fun a U => a = #[(.int p1)] ∧ Z.Warmed39 U.vm ∧ U.heap = h0) (fun _ _ _ _ _ => True) (fun _ U o U' => ∃ v L, o = .returned v ∧ Q5 Z p1 ca cc h0 n0 v U'.heap L ∧ FrameEnd U o U' L ({ frames := 3, cells := 1, slots := 1, locals := 38 } : Room).cells ({ frames := 3, cells := 1, slots := 1, locals := 38 } : Room).slots) := by
  refine MetFree.of_bodySF (plainFor_of_name pn_1) hisR ?_
  intro p e s m args below meth c s₁ Bd hml0 hP hK
  obtain ⟨rfl, hZ, hh⟩ := hP
  have hx := Bd.exec
  have hby := Bd.bytes
  have hml : c.maxLocals = 1 := hml0
  have hown : s.vm.findClass "java/lang/Integer" = some m.cls := findClass_of_methodNamed Bd.named
  have hnm := (name_of_methodNamed Bd.named Bd.method).1
  have X0 : Stand p l e ({ frames := 3, cells := 1, slots := 1, locals := 38 } : Room) s m #[(.int p1)] below meth c s₁ [] 0 0 := Stand.of_body Bd
  have e0 : s₁.heap = h0 := by rw [← hh, Bd.state]; rfl
  have N0 := Fr.nil n0
  show Go p e below s (Q5 Z p1 ca cc h0 n0) ({ frames := 3, cells := 1, slots := 1, locals := 38 } : Room).cells ({ frames := 3, cells := 1, slots := 1, locals := 38 } : Room).slots _
  refine Go.via (S' := s₁.setTop (mkF m 0 #[.val (.int p1)] [])) (fun t k => castTop (ef_5 m p1) k) ?_
  refine Go.via (S' := s₁.setTop (mkF m 1 #[.val (.int p1)] [(.int p1)])) (fun _ k => XS.iloadN X0.here hx rfl (hb hby d5_0) rfl k) ?_
  refine Go.via (S' := s₁.setTop (mkF m 3 #[.val (.int p1)] [(.int (-128 : Int32)), (.int p1)])) (fun _ k => XS.bipush X0.here hx rfl (hb hby d5_1) k) ?_
  rcases Decidable.em (p1 < (-128 : Int32)) with hc3 | hc3
  · refine Go.via (S' := s₁.setTop (mkF m 23 #[.val (.int p1)] [])) (fun _ k => XS.icmpYes X0.here hx rfl (pc0 := 3) (pc' := 23) rfl (hb hby d5_3) rfl (tlt hc3).1 (by decide) (by decide) k) ?_
    obtain ⟨T1, h1, X1, e1, E1, A1, D1, -, st1⟩ := newO X0 hx hZ hown (hw _ (List.mem_of_getElem? (i := 89) rfl)) (hw _ (List.mem_of_getElem? (i := 90) rfl)) (hw _ (List.mem_of_getElem? (i := 29) rfl)) e0 (g := (mkF m 23 #[.val (.int p1)] [])) rfl (hb hby d5_23) (by decide) (by decide)
    obtain ⟨b1, g1⟩ : ∃ z, z = h0.size := ⟨_, rfl⟩
    rw [← g1] at A1 D1 st1
    have g2 : n0 ≤ b1 := Nat.le_trans Z0 (Nat.le_of_eq g1.symm)
    have g3 : h0.size ≤ b1 := Nat.le_trans (Keep.refl h0 []).1 (Nat.le_of_eq g1.symm)
    have f4 := X00.ext E1
    have z5 := Nat.le_trans Z0 E1.1
    have K6 := (Keep.refl h0 []).ext E1
    have F7 : Fld Z h1 b1 "java/lang/Integer" "value" "I" (.int (0 : Int32)) := D1 (Or.inr (hw _ (List.mem_of_getElem? (i := 88) rfl))) (ty := .int) (by decide)
    refine Go.via (S' := T1.setTop (mkF m 26 #[.val (.int p1)] [(.ref b1)])) (fun _ k => st1 _ k) ?_
    refine Go.via (S' := T1.setTop (mkF m 27 #[.val (.int p1)] [(.ref b1), (.ref b1)])) (fun _ k => XS.dup X1.here hx rfl (hb hby d5_26) rfl rfl k) ?_
    refine Go.via (S' := T1.setTop (mkF m 28 #[.val (.int p1)] [(.int p1), (.ref b1), (.ref b1)])) (fun _ k => XS.iloadN X1.here hx rfl (hb hby d5_27) rfl k) ?_
    obtain ⟨_, _, ⟨T8, L8, k8, n8⟩, -, X8, ⟨Lc8, hQ8, l8, y8, z8⟩, st8⟩ := X1.specialBack hx (y := (⟨"java/lang/Integer", "<init>", "(I)V"⟩ : MethodName)) rfl hown (mvT hZ (hw _ (List.mem_of_getElem? (i := 91) rfl))) (mvT hZ (hw _ (List.mem_of_getElem? (i := 92) rfl))) (mvT hZ (hw _ (List.mem_of_getElem? (i := 93) rfl))) (by decide) (backOf (W := 1) (rm14 l Z a0 hw [] b1 p1 h1 n0 z5 A1 F7 g2) hZ (hw _ (List.mem_of_getElem? (i := 93) rfl)) (hw _ (List.mem_of_getElem? (i := 29) rfl)) (by decide) (by decide)) (g := (mkF m 28 #[.val (.int p1)] [(.int p1), (.ref b1), (.ref b1)])) rfl (by rw [hml]; rfl) (Steps.refl _) (a := b1) (argsL := [(.int p1)]) (rest := [(.ref b1)]) (lenOf pd_1 rfl) rfl (by show 2 * 0 + _ ≤ _; exact Nat.le_of_eq rfl) (hb hby d5_28) (fun _ _ => ⟨rfl, e1, (by decide : 1 + 0 ≤ _), (by decide : 1 + 0 ≤ _)⟩)
    dsimp only [Pt.U, Pt.locs, Pt.cells, Pt.slots] at X8 l8 y8 z8 st8 hQ8
    subst l8 y8 z8
    obtain ⟨rfl, N8q, K8, Fv8⟩ := hQ8
    have N9 := Fr.app N0 N8q
    have f10 := f4.keep K8 (allS g2 all0)
    have f11 := A1.keep K8
    have z12 := Nat.le_trans z5 K8.1
    have K13 := K6.trans K8 (allS (Or.inr g3) all0)
    refine Go.via (S' := T8.setTop (mkF m 31 #[.val (.int p1)] [(.ref b1)])) (fun _ k => st8.trans k) ?_
    exact Go.retA X8 hx (BodyLoose.notSynchronized Bd) Bd.returns rfl rfl rfl (hb hby d5_31) ⟨_, rfl, N9, K13, f11, Fv8⟩ (by decide) (by decide)
  · refine Go.via (S' := s₁.setTop (mkF m 6 #[.val (.int p1)] [])) (fun _ k => XS.icmpNo X0.here hx rfl (hb hby d5_3) rfl (flt hc3).1 k) ?_
    refine Go.via (S' := s₁.setTop (mkF m 7 #[.val (.int p1)] [(.int p1)])) (fun _ k => XS.iloadN X0.here hx rfl (hb hby d5_6) rfl k) ?_
    have Sh0 := Sh.ext X00.2
    have Sc0 := Sc.ext X00.2
    obtain ⟨T14, X14, e14, st14⟩ := getS2 X0 hx hZ hown (host := "") (Or.inl (hw _ (List.mem_of_getElem? (i := 31) rfl))) Via.refl e0 Sh0 (g := (mkF m 7 #[.val (.int p1)] [(.int p1)])) rfl (hb hby d5_7)
    refine Go.via (S' := T14.setTop (mkF m 10 #[.val (.int p1)] [(.int (127 : Int32)), (.int p1)])) (fun _ k => st14 _ k) ?_
    rcases Decidable.em ((127 : Int32) < p1) with hc10 | hc10
    · refine Go.via (S' := T14.setTop (mkF m 23 #[.val (.int p1)] [])) (fun _ k => XS.icmpYes X14.here hx rfl (pc0 := 10) (pc' := 23) rfl (hb hby d5_10) rfl (tlt hc10).2.2.1 (by decide) (by decide) k) ?_
      obtain ⟨T15, h15, X15, e15, E15, A15, D15, -, st15⟩ := newO X14 hx hZ hown (hw _ (List.mem_of_getElem? (i := 89) rfl)) (hw _ (List.mem_of_getElem? (i := 90) rfl)) (hw _ (List.mem_of_getElem? (i := 29) rfl)) e14 (g := (mkF m 23 #[.val (.int p1)] [])) rfl (hb hby d5_23) (by decide) (by decide)
      obtain ⟨b15, g15⟩ : ∃ z, z = h0.size := ⟨_, rfl⟩
      rw [← g15] at A15 D15 st15
      have g16 : n0 ≤ b15 := Nat.le_trans Z0 (Nat.le_of_eq g15.symm)
      have g17 : h0.size ≤ b15 := Nat.le_trans (Keep.refl h0 []).1 (Nat.le_of_eq g15.symm)
      have f18 := X00.ext E15
      have z19 := Nat.le_trans Z0 E15.1
      have K20 := (Keep.refl h0 []).ext E15
      have F21 : Fld Z h15 b15 "java/lang/Integer" "value" "I" (.int (0 : Int32)) := D15 (Or.inr (hw _ (List.mem_of_getElem? (i := 88) rfl))) (ty := .int) (by decide)
      refine Go.via (S' := T15.setTop (mkF m 26 #[.val (.int p1)] [(.ref b15)])) (fun _ k => st15 _ k) ?_
      refine Go.via (S' := T15.setTop (mkF m 27 #[.val (.int p1)] [(.ref b15), (.ref b15)])) (fun _ k => XS.dup X15.here hx rfl (hb hby d5_26) rfl rfl k) ?_
      refine Go.via (S' := T15.setTop (mkF m 28 #[.val (.int p1)] [(.int p1), (.ref b15), (.ref b15)])) (fun _ k => XS.iloadN X15.here hx rfl (hb hby d5_27) rfl k) ?_
      obtain ⟨_, _, ⟨T22, L22, k22, n22⟩, -, X22, ⟨Lc22, hQ22, l22, y22, z22⟩, st22⟩ := X15.specialBack hx (y := (⟨"java/lang/Integer", "<init>", "(I)V"⟩ : MethodName)) rfl hown (mvT hZ (hw _ (List.mem_of_getElem? (i := 91) rfl))) (mvT hZ (hw _ (List.mem_of_getElem? (i := 92) rfl))) (mvT hZ (hw _ (List.mem_of_getElem? (i := 93) rfl))) (by decide) (backOf (W := 1) (rm14 l Z a0 hw [] b15 p1 h15 n0 z19 A15 F21 g16) hZ (hw _ (List.mem_of_getElem? (i := 93) rfl)) (hw _ (List.mem_of_getElem? (i := 29) rfl)) (by decide) (by decide)) (g := (mkF m 28 #[.val (.int p1)] [(.int p1), (.ref b15), (.ref b15)])) rfl (by rw [hml]; rfl) (Steps.refl _) (a := b15) (argsL := [(.int p1)]) (rest := [(.ref b15)]) (lenOf pd_1 rfl) rfl (by show 2 * 0 + _ ≤ _; exact Nat.le_of_eq rfl) (hb hby d5_28) (fun _ _ => ⟨rfl, e15, (by decide : 1 + 0 ≤ _), (by decide : 1 + 0 ≤ _)⟩)
      dsimp only [Pt.U, Pt.locs, Pt.cells, Pt.slots] at X22 l22 y22 z22 st22 hQ22
      subst l22 y22 z22
      obtain ⟨rfl, N22q, K22, Fv22⟩ := hQ22
      have N23 := Fr.app N0 N22q
      have f24 := f18.keep K22 (allS g16 all0)
      have f25 := A15.keep K22
      have z26 := Nat.le_trans z19 K22.1
      have K27 := K20.trans K22 (allS (Or.inr g17) all0)
      refine Go.via (S' := T22.setTop (mkF m 31 #[.val (.int p1)] [(.ref b15)])) (fun _ k => st22.trans k) ?_
      exact Go.retA X22 hx (BodyLoose.notSynchronized Bd) Bd.returns rfl rfl rfl (hb hby d5_31) ⟨_, rfl, N23, K27, f25, Fv22⟩ (by decide) (by decide)
    · refine Go.via (S' := T14.setTop (mkF m 13 #[.val (.int p1)] [])) (fun _ k => XS.icmpNo X14.here hx rfl (hb hby d5_10) rfl (flt hc10).2.2.1 k) ?_
      obtain ⟨T28, X28, e28, st28⟩ := getS2 X14 hx hZ hown (host := "") (Or.inl (hw _ (List.mem_of_getElem? (i := 33) rfl))) Via.refl e14 Sc0 (g := (mkF m 13 #[.val (.int p1)] [])) rfl (hb hby d5_13)
      refine Go.via (S' := T28.setTop (mkF m 16 #[.val (.int p1)] [(.ref ca)])) (fun _ k => st28 _ k) ?_
      refine Go.via (S' := T28.setTop (mkF m 17 #[.val (.int p1)] [(.int p1), (.ref ca)])) (fun _ k => XS.iloadN X28.here hx rfl (hb hby d5_16) rfl k) ?_
      refine Go.via (S' := T28.setTop (mkF m 20 #[.val (.int p1)] [(.int (128 : Int32)), (.int p1), (.ref ca)])) (fun _ k => XS.sipush X28.here hx rfl (hb hby d5_17) k) ?_
      refine Go.via (S' := T28.setTop (mkF m 21 #[.val (.int p1)] [(.int (p1 + (128 : Int32))), (.ref ca)])) (fun _ k => XS.iadd X28.here hx rfl (hb hby d5_20) rfl k) ?_
      obtain ⟨Ac, Sz, Nz⟩ := Bc.ext X00.2
      have in21 : ¬ ((p1 + (128 : Int32)) < 0 ∨ cc.slots.size ≤ (p1 + (128 : Int32)).toNatClampNeg) := inb_of Sz (own_ciI hc3 hc10)
      obtain ⟨r, at21, Er, Fr_⟩ := Bc.2.2.2 _ in21
      have Er0 := Er.ext X00.2
      have Fr0 := Fr_.ext X00.2
      refine Go.via (S' := T28.setTop (mkF m 22 #[.val (.int p1)] [(.ref r)])) (fun _ k => X28.aaload hx (j := (p1 + (128 : Int32))) (v := (.ref r)) (by rw [e28]; exact Ac.1) (State.isArrayOf_alike hZ.alike Ac.2.1) rfl Ac.2.2 in21 at21 (g := (mkF m 21 #[.val (.int p1)] [(.int (p1 + (128 : Int32))), (.ref ca)])) rfl rfl (hb hby d5_21) _ k) ?_
      exact Go.retA X28 hx (BodyLoose.notSynchronized Bd) Bd.returns rfl rfl rfl (hb hby d5_22) (by rw [e28]; exact ⟨_, rfl, N0, Keep.refl _ _, Er0, (by have q : Fld Z h0 r "java/lang/Integer" "value" "I" (.int ((p1 + (128 : Int32)) - 128)) := Fr0; rw [own_nc] at q; exact q)⟩) (by decide) (by decide)
theorem d13_0 : decode jdk_33_method_27_code 0 = .ok (.aload_n 0, 1) := by decide +kernel
theorem d13_1 : decode jdk_33_method_27_code 1 = .ok (.getfield 205, 3) := by decide +kernel
theorem d13_4 : decode jdk_33_method_27_code 4 = .ok (.ireturn, 1) := by decide +kernel
theorem ef_13 (m : MethodId) (x0 : Addr) : entryFrame m #[(.ref x0)] 1 = mkF m 0 #[.val (.ref x0)] [] := by first | (simp [entryFrame, mkF, argsToLocals, Value.category]; done) | rfl
def Q13 (Z : State) (a1 : Addr) (x_ : Int32) (h0 : Heap) (n0 : Nat) (v : Option Value) (h : Heap) (L : List Loc) : Prop := v = some (.int x_) ∧ Fr n0 L ∧ h = h0
set_option maxRecDepth 65536 in
set_option maxHeartbeats 40000000 in
theorem rm13 (l : Launch) (Z : State) (a0 : Array Value) (hw : ∀ d ∈ tables_1, d.before a0 Z = true) (ws : List Jvm.Cond) (a1 : Addr) (x_ : Int32) (h0 : Heap) (n0 : Nat) (Z0 : n0 ≤ h0.size) (F1 : Fld Z h0 a1 "java/lang/Integer" "value" "I" (.int x_)) :
    MetFree l (⟨"java/lang/Integer", "intValue", "()I"⟩ : MethodName) (head1 (Jvm.Cond.code (⟨"java/lang/Integer", "intValue", "()I"⟩ : MethodName) jdk_33_method_27_code 1 (some .int) :: ws) ({ frames := 0, cells := 0, slots := 0, locals := 0 } : Room)) (fun a U => a = #[(.ref a1)] ∧ Z.Warmed39 U.vm ∧ U.heap = h0) (fun _ _ _ _ _ => True) (fun _ U o U' => ∃ v L, o = .returned v ∧ Q13 Z a1 x_ h0 n0 v U'.heap L ∧ FrameEnd U o U' L ({ frames := 0, cells := 0, slots := 0, locals := 0 } : Room).cells ({ frames := 0, cells := 0, slots := 0, locals := 0 } : Room).slots) := by
  refine MetFree.of_bodySF (plainFor_of_name pn_1) hisR ?_
  intro p e s m args below meth c s₁ Bd hml0 hP hK
  obtain ⟨rfl, hZ, hh⟩ := hP
  have hx := Bd.exec
  have hby := Bd.bytes
  have hml : c.maxLocals = 1 := hml0
  have hown : s.vm.findClass "java/lang/Integer" = some m.cls := findClass_of_methodNamed Bd.named
  have hnm := (name_of_methodNamed Bd.named Bd.method).1
  have X0 : Stand p l e ({ frames := 0, cells := 0, slots := 0, locals := 0 } : Room) s m #[(.ref a1)] below meth c s₁ [] 0 0 := Stand.of_body Bd
  have e0 : s₁.heap = h0 := by rw [← hh, Bd.state]; rfl
  have N0 := Fr.nil n0
  show Go p e below s (Q13 Z a1 x_ h0 n0) ({ frames := 0, cells := 0, slots := 0, locals := 0 } : Room).cells ({ frames := 0, cells := 0, slots := 0, locals := 0 } : Room).slots _
  refine Go.via (S' := s₁.setTop (mkF m 0 #[.val (.ref a1)] [])) (fun t k => castTop (ef_13 m a1) k) ?_
  refine Go.via (S' := s₁.setTop (mkF m 1 #[.val (.ref a1)] [(.ref a1)])) (fun _ k => XS.aloadN X0.here hx rfl (hb hby d13_0) rfl rfl k) ?_
  obtain ⟨T1, X1, e1, st1⟩ := getF X0 hx hZ hown (host := "") (Or.inl (hw _ (List.mem_of_getElem? (i := 87) rfl))) Via.refl e0 F1 (g := (mkF m 1 #[.val (.ref a1)] [(.ref a1)])) rfl rfl (hb hby d13_1)
  refine Go.via (S' := T1.setTop (mkF m 4 #[.val (.ref a1)] [(.int x_)])) (fun _ k => st1 _ k) ?_
  exact Go.retI X1 hx (BodyLoose.notSynchronized Bd) Bd.returns (hb hby d13_4) (by rw [e1]; exact ⟨rfl, N0, rfl⟩) (by decide) (by decide)
theorem d3_0 : decode jdk_22_method_1_code 0 = .ok (.aload_n 0, 1) := by decide +kernel
theorem d3_1 : decode jdk_22_method_1_code 1 = .ok (.invokespecial 1, 3) := by decide +kernel
theorem d3_4 : decode jdk_22_method_1_code 4 = .ok (.return_, 1) := by decide +kernel
theorem pn_2 : plainName "java/util/AbstractCollection" = true := by first | (simp [plainName, overriddenIn]; done) | decide +kernel
theorem ef_3 (m : MethodId) (x0 : Addr) : entryFrame m #[(.ref x0)] 1 = mkF m 0 #[.val (.ref x0)] [] := by first | (simp [entryFrame, mkF, argsToLocals, Value.category]; done) | rfl
def Q3 (Z : State) (a1 : Addr) (h0 : Heap) (n0 : Nat) (v : Option Value) (h : Heap) (L : List Loc) : Prop := v = none ∧ Fr n0 L ∧ h = h0
set_option maxRecDepth 65536 in
set_option maxHeartbeats 40000000 in
theorem rm3 (l : Launch) (Z : State) (a0 : Array Value) (hw : ∀ d ∈ tables_1, d.before a0 Z = true) (ws : List Jvm.Cond) (a1 : Addr) (h0 : Heap) (n0 : Nat) (Z0 : n0 ≤ h0.size) :
    MetFree l (⟨"java/util/AbstractCollection", "<init>", "()V"⟩ : MethodName) (head1 (Jvm.Cond.code (⟨"java/util/AbstractCollection", "<init>", "()V"⟩ : MethodName) jdk_22_method_1_code 1 none :: ws) ({ frames := 1, cells := 0, slots := 0, locals := 12 } : Room)) (fun a U => a = #[(.ref a1)] ∧ Z.Warmed39 U.vm ∧ U.heap = h0) (fun _ _ _ _ _ => True) (fun _ U o U' => ∃ v L, o = .returned v ∧ Q3 Z a1 h0 n0 v U'.heap L ∧ FrameEnd U o U' L ({ frames := 1, cells := 0, slots := 0, locals := 12 } : Room).cells ({ frames := 1, cells := 0, slots := 0, locals := 12 } : Room).slots) := by
  refine MetFree.of_bodySF (plainFor_of_name pn_2) hisR ?_
  intro p e s m args below meth c s₁ Bd hml0 hP hK
  obtain ⟨rfl, hZ, hh⟩ := hP
  have hx := Bd.exec
  have hby := Bd.bytes
  have hml : c.maxLocals = 1 := hml0
  have hown : s.vm.findClass "java/util/AbstractCollection" = some m.cls := findClass_of_methodNamed Bd.named
  have hnm := (name_of_methodNamed Bd.named Bd.method).1
  have X0 : Stand p l e ({ frames := 1, cells := 0, slots := 0, locals := 12 } : Room) s m #[(.ref a1)] below meth c s₁ [] 0 0 := Stand.of_body Bd
  have e0 : s₁.heap = h0 := by rw [← hh, Bd.state]; rfl
  have N0 := Fr.nil n0
  show Go p e below s (Q3 Z a1 h0 n0) ({ frames := 1, cells := 0, slots := 0, locals := 12 } : Room).cells ({ frames := 1, cells := 0, slots := 0, locals := 12 } : Room).slots _
  refine Go.via (S' := s₁.setTop (mkF m 0 #[.val (.ref a1)] [])) (fun t k => castTop (ef_3 m a1) k) ?_
  refine Go.via (S' := s₁.setTop (mkF m 1 #[.val (.ref a1)] [(.ref a1)])) (fun _ k => XS.aloadN X0.here hx rfl (hb hby d3_0) rfl rfl k) ?_
  obtain ⟨T1, X1, e1, st1⟩ := initO X0 hx hZ hown (hw _ (List.mem_of_getElem? (i := 18) rfl)) (hw _ (List.mem_of_getElem? (i := 19) rfl)) (hw _ (List.mem_of_getElem? (i := 20) rfl)) e0 (g := (mkF m 1 #[.val (.ref a1)] [(.ref a1)])) rfl (by rw [hml]; rfl) rfl (hb hby d3_1) (by decide) (W := 0) (by show 2 * 0 + _ ≤ _; exact Nat.le_of_eq rfl) (by decide)
  refine Go.via (S' := T1.setTop (mkF m 4 #[.val (.ref a1)] [])) (fun _ k => st1 _ k) ?_
  exact Go.retV X1 hx (BodyLoose.notSynchronized Bd) Bd.returns (hb hby d3_4) (by rw [e1]; exact ⟨rfl, N0, rfl⟩) (by decide) (by decide)
theorem d2_0 : decode jdk_39_method_1_code 0 = .ok (.aload_n 0, 1) := by decide +kernel
theorem d2_1 : decode jdk_39_method_1_code 1 = .ok (.invokespecial 1, 3) := by decide +kernel
theorem d2_4 : decode jdk_39_method_1_code 4 = .ok (.aload_n 0, 1) := by decide +kernel
theorem d2_5 : decode jdk_39_method_1_code 5 = .ok (.iconst 0, 1) := by decide +kernel
theorem d2_6 : decode jdk_39_method_1_code 6 = .ok (.putfield 7, 3) := by decide +kernel
theorem d2_9 : decode jdk_39_method_1_code 9 = .ok (.return_, 1) := by decide +kernel
theorem pn_3 : plainName "java/util/AbstractList" = true := by first | (simp [plainName, overriddenIn]; done) | decide +kernel
theorem ef_2 (m : MethodId) (x0 : Addr) : entryFrame m #[(.ref x0)] 1 = mkF m 0 #[.val (.ref x0)] [] := by first | (simp [entryFrame, mkF, argsToLocals, Value.category]; done) | rfl
def Q2 (Z : State) (a1 : Addr) (h0 : Heap) (n0 : Nat) (v : Option Value) (h : Heap) (L : List Loc) : Prop := v = none ∧ Fr n0 L ∧ Keep h0 h [a1] ∧ Fld Z h a1 "java/util/AbstractList" "modCount" "I" (.int (0 : Int32)) ∧ Fld Z h a1 "com/example/tidegraph/tidegraph/graph/ElementList" "elements" "[Ljava/lang/Object;" .null ∧ Fld Z h a1 "com/example/tidegraph/tidegraph/graph/ElementList" "size" "I" (.int (0 : Int32))
set_option maxRecDepth 65536 in
set_option maxHeartbeats 40000000 in
theorem rm2 (l : Launch) (Z : State) (a0 : Array Value) (hw : ∀ d ∈ tables_1, d.before a0 Z = true) (ws : List Jvm.Cond) (a1 : Addr) (h0 : Heap) (n0 : Nat) (Z0 : n0 ≤ h0.size) (E1 : Exa Z h0 a1 "com/example/tidegraph/tidegraph/graph/ElementList") (F_modCount : Fld Z h0 a1 "java/util/AbstractList" "modCount" "I" (.int (0 : Int32))) (F_elements : Fld Z h0 a1 "com/example/tidegraph/tidegraph/graph/ElementList" "elements" "[Ljava/lang/Object;" .null) (F_size : Fld Z h0 a1 "com/example/tidegraph/tidegraph/graph/ElementList" "size" "I" (.int (0 : Int32))) (g1 : n0 ≤ a1) :
    MetFree l (⟨"java/util/AbstractList", "<init>", "()V"⟩ : MethodName) (head1 (Jvm.Cond.code (⟨"java/util/AbstractList", "<init>", "()V"⟩ : MethodName) jdk_39_method_1_code 1 none :: ws) ({ frames := 2, cells := 0, slots := 0, locals := 24 } : Room)) (fun a U => a = #[(.ref a1)] ∧ Z.Warmed39 U.vm ∧ U.heap = h0) (fun _ _ _ _ _ => True) (fun _ U o U' => ∃ v L, o = .returned v ∧ Q2 Z a1 h0 n0 v U'.heap L ∧ FrameEnd U o U' L ({ frames := 2, cells := 0, slots := 0, locals := 24 } : Room).cells ({ frames := 2, cells := 0, slots := 0, locals := 24 } : Room).slots) := by
  refine MetFree.of_bodySF (plainFor_of_name pn_3) hisR ?_
  intro p e s m args below meth c s₁ Bd hml0 hP hK
  obtain ⟨rfl, hZ, hh⟩ := hP
  have hx := Bd.exec
  have hby := Bd.bytes
  have hml : c.maxLocals = 1 := hml0
  have hown : s.vm.findClass "java/util/AbstractList" = some m.cls := findClass_of_methodNamed Bd.named
  have hnm := (name_of_methodNamed Bd.named Bd.method).1
  have X0 : Stand p l e ({ frames := 2, cells := 0, slots := 0, locals := 24 } : Room) s m #[(.ref a1)] below meth c s₁ [] 0 0 := Stand.of_body Bd
  have e0 : s₁.heap = h0 := by rw [← hh, Bd.state]; rfl
  have N0 := Fr.nil n0
  show Go p e below s (Q2 Z a1 h0 n0) ({ frames := 2, cells := 0, slots := 0, locals := 24 } : Room).cells ({ frames := 2, cells := 0, slots := 0, locals := 24 } : Room).slots _
  refine Go.via (S' := s₁.setTop (mkF m 0 #[.val (.ref a1)] [])) (fun t k => castTop (ef_2 m a1) k) ?_
  refine Go.via (S' := s₁.setTop (mkF m 1 #[.val (.ref a1)] [(.ref a1)])) (fun _ k => XS.aloadN X0.here hx rfl (hb hby d2_0) rfl rfl k) ?_
  obtain ⟨_, _, ⟨T1, L1, k1, n1⟩, -, X1, ⟨Lc1, hQ1, l1, y1, z1⟩, st1⟩ := X0.specialBack hx (y := (⟨"java/util/AbstractCollection", "<init>", "()V"⟩ : MethodName)) rfl hown (mvT hZ (hw _ (List.mem_of_getElem? (i := 12) rfl))) (mvT hZ (hw _ (List.mem_of_getElem? (i := 13) rfl))) (mvT hZ (hw _ (List.mem_of_getElem? (i := 17) rfl))) (by decide) (backOf (W := 0) (rm3 l Z a0 hw [] a1 h0 n0 Z0) hZ (hw _ (List.mem_of_getElem? (i := 17) rfl)) (hw _ (List.mem_of_getElem? (i := 16) rfl)) (by decide) (by decide)) (g := (mkF m 1 #[.val (.ref a1)] [(.ref a1)])) rfl (by rw [hml]; rfl) (Steps.refl _) (a := a1) (argsL := []) (rest := []) (lenOf pd_0 rfl) rfl (by show 2 * 0 + _ ≤ _; exact Nat.le_of_eq rfl) (hb hby d2_1) (fun _ _ => ⟨rfl, e0, (by decide : 0 + 0 ≤ _), (by decide : 0 + 0 ≤ _)⟩)
  dsimp only [Pt.U, Pt.locs, Pt.cells, Pt.slots] at X1 l1 y1 z1 st1 hQ1
  subst l1 y1 z1
  obtain ⟨rfl, N1q, e1⟩ := hQ1
  have N2 := Fr.app N0 N1q
  refine Go.via (S' := T1.setTop (mkF m 4 #[.val (.ref a1)] [])) (fun _ k => st1.trans k) ?_
  refine Go.via (S' := T1.setTop (mkF m 5 #[.val (.ref a1)] [(.ref a1)])) (fun _ k => XS.aloadN X1.here hx rfl (hb hby d2_4) rfl rfl k) ?_
  refine Go.via (S' := T1.setTop (mkF m 6 #[.val (.ref a1)] [(.int (0 : Int32)), (.ref a1)])) (fun _ k => XS.iconst X1.here hx rfl (hb hby d2_5) k) ?_
  obtain ⟨T3, h3, X3, e3, W3, st3⟩ := putF X1 hx hZ hown (host := "") (Or.inl (hw _ (List.mem_of_getElem? (i := 21) rfl))) Via.refl e1 F_modCount E1 (Or.inl (hw _ (List.mem_of_getElem? (i := 22) rfl))) (hw _ (List.mem_of_getElem? (i := 2) rfl)) (ty := .int) (by decide) rfl rfl (g := (mkF m 6 #[.val (.ref a1)] [(.int (0 : Int32)), (.ref a1)])) rfl rfl (hb hby d2_6)
  have N4 := Fr.snoc X3 N2 g1
  have f5 := E1.wr W3
  have f6 := F_modCount.same W3
  have f7 := F_elements.other W3 (Or.inr (slot_ne (Or.inl (hw _ (List.mem_of_getElem? (i := 26) rfl))) (Or.inl (hw _ (List.mem_of_getElem? (i := 22) rfl))) (by decide) (t := (.array (.object "java/lang/Object"))) (t' := .int) (by decide) (by decide)))
  have f8 := F_size.other W3 (Or.inr (slot_ne (Or.inl (hw _ (List.mem_of_getElem? (i := 40) rfl))) (Or.inl (hw _ (List.mem_of_getElem? (i := 22) rfl))) (by decide) (t := .int) (t' := .int) (by decide) (by decide)))
  have z9 := Nat.le_trans Z0 (Keep.of_wr W3).1
  have K10 := (Keep.refl h0 [a1]).wr W3 (Or.inl (List.mem_of_getElem? (i := 0) rfl))
  refine Go.via (S' := T3.setTop (mkF m 9 #[.val (.ref a1)] [])) (fun _ k => st3 _ k) ?_
  exact Go.retV X3 hx (BodyLoose.notSynchronized Bd) Bd.returns (hb hby d2_9) (by rw [e3]; exact ⟨rfl, N4, K10, f6, f7, f8⟩) (by decide) (by decide)
theorem d1_0 : decode prog_8_method_1_code 0 = .ok (.aload_n 0, 1) := by decide +kernel
theorem d1_1 : decode prog_8_method_1_code 1 = .ok (.invokespecial 1, 3) := by decide +kernel
theorem d1_4 : decode prog_8_method_1_code 4 = .ok (.aload_n 0, 1) := by decide +kernel
theorem d1_5 : decode prog_8_method_1_code 5 = .ok (.getstatic 7, 3) := by decide +kernel
theorem d1_8 : decode prog_8_method_1_code 8 = .ok (.putfield 13, 3) := by decide +kernel
theorem d1_11 : decode prog_8_method_1_code 11 = .ok (.return_, 1) := by decide +kernel
theorem pn_4 : plainName "com/example/tidegraph/tidegraph/graph/ElementList" = true := by first | (simp [plainName, overriddenIn]; done) | decide +kernel
theorem ef_1 (m : MethodId) (x0 : Addr) : entryFrame m #[(.ref x0)] 1 = mkF m 0 #[.val (.ref x0)] [] := by first | (simp [entryFrame, mkF, argsToLocals, Value.category]; done) | rfl
def Q1 (Z : State) (a1 : Addr) (na : Addr) (h0 : Heap) (n0 : Nat) (v : Option Value) (h : Heap) (L : List Loc) : Prop := v = none ∧ Fr n0 L ∧ Keep h0 h [a1] ∧ Fld Z h a1 "java/util/AbstractList" "modCount" "I" (.int (0 : Int32)) ∧ Fld Z h a1 "com/example/tidegraph/tidegraph/graph/ElementList" "elements" "[Ljava/lang/Object;" (.ref na) ∧ Fld Z h a1 "com/example/tidegraph/tidegraph/graph/ElementList" "size" "I" (.int (0 : Int32))
set_option maxRecDepth 65536 in
set_option maxHeartbeats 40000000 in
theorem rm1 (l : Launch) (Z : State) (a0 : Array Value) (hw : ∀ d ∈ tables_1, d.before a0 Z = true) (ws : List Jvm.Cond) (a1 : Addr) (na : Addr) (h0 : Heap) (n0 : Nat) (Z0 : n0 ≤ h0.size) (E1 : Exa Z h0 a1 "com/example/tidegraph/tidegraph/graph/ElementList") (F_modCount : Fld Z h0 a1 "java/util/AbstractList" "modCount" "I" (.int (0 : Int32))) (F_elements : Fld Z h0 a1 "com/example/tidegraph/tidegraph/graph/ElementList" "elements" "[Ljava/lang/Object;" .null) (F_size : Fld Z h0 a1 "com/example/tidegraph/tidegraph/graph/ElementList" "size" "I" (.int (0 : Int32))) (g1 : n0 ≤ a1) (X00 : Old Z n0 h0) (Sn : Sta Z Z.heap "com/example/tidegraph/tidegraph/graph/ElementList" "NONE" "[Ljava/lang/Object;" (.ref na)) :
    MetFree l (⟨"com/example/tidegraph/tidegraph/graph/ElementList", "<init>", "()V"⟩ : MethodName) (head1 (Jvm.Cond.code (⟨"com/example/tidegraph/tidegraph/graph/ElementList", "<init>", "()V"⟩ : MethodName) prog_8_method_1_code 1 none :: ws) ({ frames := 3, cells := 0, slots := 0, locals := 36 } : Room)) (fun a U => a = #[(.ref a1)] ∧ Z.Warmed39 U.vm ∧ U.heap = h0) (fun _ _ _ _ _ => True) (fun _ U o U' => ∃ v L, o = .returned v ∧ Q1 Z a1 na h0 n0 v U'.heap L ∧ FrameEnd U o U' L ({ frames := 3, cells := 0, slots := 0, locals := 36 } : Room).cells ({ frames := 3, cells := 0, slots := 0, locals := 36 } : Room).slots) := by
  refine MetFree.of_bodySF (plainFor_of_name pn_4) hisR ?_
  intro p e s m args below meth c s₁ Bd hml0 hP hK
  obtain ⟨rfl, hZ, hh⟩ := hP
  have hx := Bd.exec
  have hby := Bd.bytes
  have hml : c.maxLocals = 1 := hml0
  have hown : s.vm.findClass "com/example/tidegraph/tidegraph/graph/ElementList" = some m.cls := findClass_of_methodNamed Bd.named
  have hnm := (name_of_methodNamed Bd.named Bd.method).1
  have X0 : Stand p l e ({ frames := 3, cells := 0, slots := 0, locals := 36 } : Room) s m #[(.ref a1)] below meth c s₁ [] 0 0 := Stand.of_body Bd
  have e0 : s₁.heap = h0 := by rw [← hh, Bd.state]; rfl
  have N0 := Fr.nil n0
  show Go p e below s (Q1 Z a1 na h0 n0) ({ frames := 3, cells := 0, slots := 0, locals := 36 } : Room).cells ({ frames := 3, cells := 0, slots := 0, locals := 36 } : Room).slots _
  refine Go.via (S' := s₁.setTop (mkF m 0 #[.val (.ref a1)] [])) (fun t k => castTop (ef_1 m a1) k) ?_
  refine Go.via (S' := s₁.setTop (mkF m 1 #[.val (.ref a1)] [(.ref a1)])) (fun _ k => XS.aloadN X0.here hx rfl (hb hby d1_0) rfl rfl k) ?_
  obtain ⟨_, _, ⟨T1, L1, k1, n1⟩, -, X1, ⟨Lc1, hQ1, l1, y1, z1⟩, st1⟩ := X0.specialBack hx (y := (⟨"java/util/AbstractList", "<init>", "()V"⟩ : MethodName)) rfl hown (mvT hZ (hw _ (List.mem_of_getElem? (i := 7) rfl))) (mvT hZ (hw _ (List.mem_of_getElem? (i := 8) rfl))) (mvT hZ (hw _ (List.mem_of_getElem? (i := 11) rfl))) (by decide) (backOf (W := 0) (rm2 l Z a0 hw [] a1 h0 n0 Z0 E1 F_modCount F_elements F_size g1) hZ (hw _ (List.mem_of_getElem? (i := 11) rfl)) (hw _ (List.mem_of_getElem? (i := 10) rfl)) (by decide) (by decide)) (g := (mkF m 1 #[.val (.ref a1)] [(.ref a1)])) rfl (by rw [hml]; rfl) (Steps.refl _) (a := a1) (argsL := []) (rest := []) (lenOf pd_0 rfl) rfl (by show 2 * 0 + _ ≤ _; exact Nat.le_of_eq rfl) (hb hby d1_1) (fun _ _ => ⟨rfl, e0, (by decide : 0 + 0 ≤ _), (by decide : 0 + 0 ≤ _)⟩)
  dsimp only [Pt.U, Pt.locs, Pt.cells, Pt.slots] at X1 l1 y1 z1 st1 hQ1
  subst l1 y1 z1
  obtain ⟨rfl, N1q, K1, F_modCount1, F_elements1, F_size1⟩ := hQ1
  have N2 := Fr.app N0 N1q
  have f3 := E1.keep K1
  have f4 := X00.keep K1 (allS g1 all0)
  have z5 := Nat.le_trans Z0 K1.1
  have K6 := (Keep.refl h0 [a1]).trans K1 (allS (Or.inl (List.mem_of_getElem? (i := 0) rfl)) all0)
  refine Go.via (S' := T1.setTop (mkF m 4 #[.val (.ref a1)] [])) (fun _ k => st1.trans k) ?_
  refine Go.via (S' := T1.setTop (mkF m 5 #[.val (.ref a1)] [(.ref a1)])) (fun _ k => XS.aloadN X1.here hx rfl (hb hby d1_4) rfl rfl k) ?_
  have sn7 := Sn.ext f4.2
  obtain ⟨T8, X8, e8, st8⟩ := getS2 X1 hx hZ hown (host := "") (Or.inl (hw _ (List.mem_of_getElem? (i := 23) rfl))) Via.refl rfl sn7 (g := (mkF m 5 #[.val (.ref a1)] [(.ref a1)])) rfl (hb hby d1_5)
  refine Go.via (S' := T8.setTop (mkF m 8 #[.val (.ref a1)] [(.ref na), (.ref a1)])) (fun _ k => st8 _ k) ?_
  obtain ⟨T9, h9, X9, e9, W9, st9⟩ := putF X8 hx hZ hown (host := "") (Or.inl (hw _ (List.mem_of_getElem? (i := 25) rfl))) Via.refl e8 F_elements1 f3 (Or.inl (hw _ (List.mem_of_getElem? (i := 26) rfl))) (hw _ (List.mem_of_getElem? (i := 2) rfl)) (ty := (.array (.object "java/lang/Object"))) (by decide) rfl rfl (g := (mkF m 8 #[.val (.ref a1)] [(.ref na), (.ref a1)])) rfl rfl (hb hby d1_8)
  have N10 := Fr.snoc X9 N2 g1
  have f11 := f3.wr W9
  have f12 := f4.wr W9 g1
  have f13 := F_modCount1.other W9 (Or.inr (slot_ne (Or.inl (hw _ (List.mem_of_getElem? (i := 22) rfl))) (Or.inl (hw _ (List.mem_of_getElem? (i := 26) rfl))) (by decide) (t := .int) (t' := (.array (.object "java/lang/Object"))) (by decide) (by decide)))
  have f14 := F_elements1.same W9
  have f15 := F_size1.other W9 (Or.inr (slot_ne (Or.inl (hw _ (List.mem_of_getElem? (i := 40) rfl))) (Or.inl (hw _ (List.mem_of_getElem? (i := 26) rfl))) (by decide) (t := .int) (t' := (.array (.object "java/lang/Object"))) (by decide) (by decide)))
  have z16 := Nat.le_trans z5 (Keep.of_wr W9).1
  have K17 := K6.wr W9 (Or.inl (List.mem_of_getElem? (i := 0) rfl))
  refine Go.via (S' := T9.setTop (mkF m 11 #[.val (.ref a1)] [])) (fun _ k => st9 _ k) ?_
  exact Go.retV X9 hx (BodyLoose.notSynchronized Bd) Bd.returns (hb hby d1_11) (by rw [e9]; exact ⟨rfl, N10, K17, f13, f14, f15⟩) (by decide) (by decide)
theorem d9_0 : decode jdk_65_method_120_code 0 = .ok (.aload_n 2, 1) := by decide +kernel
theorem d9_1 : decode jdk_65_method_120_code 1 = .ok (.ldc 110, 2) := by decide +kernel
theorem d9_3 : decode jdk_65_method_120_code 3 = .ok (.if_acmp .ne 10, 3) := by decide +kernel
theorem d9_6 : decode jdk_65_method_120_code 6 = .ok (.iload_n 1, 1) := by decide +kernel
theorem d9_7 : decode jdk_65_method_120_code 7 = .ok (.anewarray 2, 3) := by decide +kernel
theorem d9_10 : decode jdk_65_method_120_code 10 = .ok (.goto 14, 3) := by decide +kernel
theorem d9_24 : decode jdk_65_method_120_code 24 = .ok (.astore_n 3, 1) := by decide +kernel
theorem d9_25 : decode jdk_65_method_120_code 25 = .ok (.aload_n 0, 1) := by decide +kernel
theorem d9_26 : decode jdk_65_method_120_code 26 = .ok (.iconst 0, 1) := by decide +kernel
theorem d9_27 : decode jdk_65_method_120_code 27 = .ok (.aload_n 3, 1) := by decide +kernel
theorem d9_28 : decode jdk_65_method_120_code 28 = .ok (.iconst 0, 1) := by decide +kernel
theorem d9_29 : decode jdk_65_method_120_code 29 = .ok (.aload_n 0, 1) := by decide +kernel
theorem d9_30 : decode jdk_65_method_120_code 30 = .ok (.arraylength, 1) := by decide +kernel
theorem d9_31 : decode jdk_65_method_120_code 31 = .ok (.iload_n 1, 1) := by decide +kernel
theorem d9_32 : decode jdk_65_method_120_code 32 = .ok (.invokestatic 304, 3) := by decide +kernel
theorem pd_2 : parseMethodDescriptor "(II)I" = some ⟨[.int, .int], some .int⟩ := by decide +kernel
theorem d9_35 : decode jdk_65_method_120_code 35 = .ok (.invokestatic 150, 3) := by decide +kernel
theorem d9_38 : decode jdk_65_method_120_code 38 = .ok (.aload_n 3, 1) := by decide +kernel
theorem d9_39 : decode jdk_65_method_120_code 39 = .ok (.areturn, 1) := by decide +kernel
theorem pn_5 : plainName "java/util/Arrays" = true := by first | (simp [plainName, overriddenIn]; done) | decide +kernel
theorem ef_9c0 (m : MethodId) (x0 : Addr) (x1 : Int32) (x2 : Addr) : entryFrame m #[(.ref x0), (.int x1), (.ref x2)] 4 = mkF m 0 #[.val (.ref x0), .val (.int x1), .val (.ref x2), .unset] [] := by first | (simp [entryFrame, mkF, argsToLocals, Value.category]; done) | rfl
def Q9c0 (Z : State) (a1 : Addr) (p2 : Int32) (mr : Addr) (k : ClassId) (h0 : Heap) (n0 : Nat) (v : Option Value) (h : Heap) (L : List Loc) : Prop := ∃ (r : Addr) (kk : ClassId), v = some (.ref r) ∧ Fr n0 L ∧ Keep h0 h [] ∧ n0 ≤ r ∧ h0.size ≤ r ∧ Exa Z h r "[Ljava/lang/Object;" ∧ Ovr Z kk "java/lang/Object" ∧ Arv Z h r kk (.object "java/lang/Object") (4 : Int32) [.null, .null, .null, .null] .null
set_option maxRecDepth 65536 in
set_option maxHeartbeats 40000000 in
theorem rm9c0 (l : Launch) (Z : State) (a0 : Array Value) (hw : ∀ d ∈ tables_1, d.before a0 Z = true) (ws : List Jvm.Cond) (a1 : Addr) (p2 : Int32) (mr : Addr) (k : ClassId) (h0 : Heap) (n0 : Nat) (Z0 : n0 ≤ h0.size) (hp : p2 = 4) (V1 : Arv Z h0 a1 k (.object "java/lang/Object") (0 : Int32) [] .null) (E1 : Exa Z h0 a1 "[Ljava/lang/Object;") (Mr : Mir Z "[Ljava/lang/Object;" mr) :
    MetFree l (⟨"java/util/Arrays", "copyOf", "([Ljava/lang/Object;ILjava/lang/Class;)[Ljava/lang/Object;"⟩ : MethodName) (head1 (Jvm.Cond.code (⟨"java/util/Arrays", "copyOf", "([Ljava/lang/Object;ILjava/lang/Class;)[Ljava/lang/Object;"⟩ : MethodName) jdk_65_method_120_code 4 (some (.array (.object "java/lang/Object"))) :: ws) ({ frames := 1, cells := 1, slots := 4, locals := 60 } : Room)) (fun a U => a = #[(.ref a1), (.int p2), (.ref mr)] ∧ Z.Warmed39 U.vm ∧ U.heap = h0) (fun _ _ _ _ _ => True) (fun _ U o U' => ∃ v L, o = .returned v ∧ Q9c0 Z a1 p2 mr k h0 n0 v U'.heap L ∧ FrameEnd U o U' L ({ frames := 1, cells := 1, slots := 4, locals := 60 } : Room).cells ({ frames := 1, cells := 1, slots := 4, locals := 60 } : Room).slots) := by
  refine MetFree.of_bodySF (plainFor_of_name pn_5) hisR ?_
  intro p e s m args below meth c s₁ Bd hml0 hP hK
  obtain ⟨rfl, hZ, hh⟩ := hP
  have hx := Bd.exec
  have hby := Bd.bytes
  have hml : c.maxLocals = 4 := hml0
  have hown : s.vm.findClass "java/util/Arrays" = some m.cls := findClass_of_methodNamed Bd.named
  have hnm := (name_of_methodNamed Bd.named Bd.method).1
  have X0 : Stand p l e ({ frames := 1, cells := 1, slots := 4, locals := 60 } : Room) s m #[(.ref a1), (.int p2), (.ref mr)] below meth c s₁ [] 0 0 := Stand.of_body Bd
  have e0 : s₁.heap = h0 := by rw [← hh, Bd.state]; rfl
  have N0 := Fr.nil n0
  show Go p e below s (Q9c0 Z a1 p2 mr k h0 n0) ({ frames := 1, cells := 1, slots := 4, locals := 60 } : Room).cells ({ frames := 1, cells := 1, slots := 4, locals := 60 } : Room).slots _
  refine Go.via (S' := s₁.setTop (mkF m 0 #[.val (.ref a1), .val (.int p2), .val (.ref mr), .unset] [])) (fun t k => castTop (ef_9c0 m a1 p2 mr) k) ?_
  subst hp
  refine Go.via (S' := s₁.setTop (mkF m 1 #[.val (.ref a1), .val (.int (4 : Int32)), .val (.ref mr), .unset] [(.ref mr)])) (fun _ k => XS.aloadN X0.here hx rfl (hb hby d9_0) rfl rfl k) ?_
  obtain ⟨T1, X1, e1, st1⟩ := own_ldcm X0 hx hZ hown (hw _ (List.mem_of_getElem? (i := 58) rfl)) e0 Mr (g := (mkF m 1 #[.val (.ref a1), .val (.int (4 : Int32)), .val (.ref mr), .unset] [(.ref mr)])) rfl (hb hby d9_1)
  refine Go.via (S' := T1.setTop (mkF m 3 #[.val (.ref a1), .val (.int (4 : Int32)), .val (.ref mr), .unset] [(.ref mr), (.ref mr)])) (fun _ k => st1 _ k) ?_
  refine Go.via (S' := T1.setTop (mkF m 6 #[.val (.ref a1), .val (.int (4 : Int32)), .val (.ref mr), .unset] [])) (fun _ k => Jvm.RoadKit.acmp (g := (mkF m 3 #[.val (.ref a1), .val (.int (4 : Int32)), .val (.ref mr), .unset] [(.ref mr), (.ref mr)])) X1 hx rfl rfl rfl (pc0 := 3) (pc' := 6) (same := true) rfl (hb hby d9_3) rfl (decide_eq_true rfl) (by decide) (by decide) k) ?_
  refine Go.via (S' := T1.setTop (mkF m 7 #[.val (.ref a1), .val (.int (4 : Int32)), .val (.ref mr), .unset] [(.int (4 : Int32))])) (fun _ k => XS.iloadN X1.here hx rfl (hb hby d9_6) rfl k) ?_
  obtain ⟨T2, h2, k2, X2, e2, E2, A2, Ex2, O2, st2⟩ := newRE X1 hx hZ hown (hw _ (List.mem_of_getElem? (i := 59) rfl)) (hw _ (List.mem_of_getElem? (i := 60) rfl)) e1 (g := (mkF m 7 #[.val (.ref a1), .val (.int (4 : Int32)), .val (.ref mr), .unset] [(.int (4 : Int32))])) rfl (hb hby d9_7) rfl (by decide) (cap := 4) (by decide) (by decide) (by decide) (by decide) (ad := "[Ljava/lang/Object;") (by decide)
  obtain ⟨b2, g2⟩ : ∃ z, z = h0.size := ⟨_, rfl⟩
  rw [← g2] at A2 Ex2 st2
  have ne3 : a1 ≠ b2 := Nat.ne_of_lt (Nat.lt_of_lt_of_le V1.lt (Nat.le_of_eq g2.symm))
  have g4 : n0 ≤ b2 := Nat.le_trans Z0 (Nat.le_of_eq g2.symm)
  have g5 : h0.size ≤ b2 := Nat.le_trans (Keep.refl h0 []).1 (Nat.le_of_eq g2.symm)
  have f6 := V1.ext E2
  have f7 := E1.ext E2
  have z8 := Nat.le_trans Z0 E2.1
  have K9 := (Keep.refl h0 []).ext E2
  have V10 : Arv Z h2 b2 k2 (.object "java/lang/Object") (4 : Int32) [.null, .null, .null, .null] .null := (Arv.new A2 (by decide)).pad (pad_rep [] .null 4)
  refine Go.via (S' := T2.setTop (mkF m 10 #[.val (.ref a1), .val (.int (4 : Int32)), .val (.ref mr), .unset] [(.ref b2)])) (fun _ k => st2 _ k) ?_
  refine Go.via (S' := T2.setTop (mkF m 24 #[.val (.ref a1), .val (.int (4 : Int32)), .val (.ref mr), .unset] [(.ref b2)])) (fun _ k => XS.goto X2.here hx rfl (pc0 := 10) (pc' := 24) rfl (hb hby d9_10) (by decide) (by decide) k) ?_
  refine Go.via (S' := T2.setTop (mkF m 25 #[.val (.ref a1), .val (.int (4 : Int32)), .val (.ref mr), .val (.ref b2)] [])) (fun _ k => XS.astoreN X2.here hx rfl (hb hby d9_24) rfl rfl (l' := #[.val (.ref a1), .val (.int (4 : Int32)), .val (.ref mr), .val (.ref b2)]) rfl k) ?_
  refine Go.via (S' := T2.setTop (mkF m 26 #[.val (.ref a1), .val (.int (4 : Int32)), .val (.ref mr), .val (.ref b2)] [(.ref a1)])) (fun _ k => XS.aloadN X2.here hx rfl (hb hby d9_25) rfl rfl k) ?_
  refine Go.via (S' := T2.setTop (mkF m 27 #[.val (.ref a1), .val (.int (4 : Int32)), .val (.ref mr), .val (.ref b2)] [(.int (0 : Int32)), (.ref a1)])) (fun _ k => XS.iconst X2.here hx rfl (hb hby d9_26) k) ?_
  refine Go.via (S' := T2.setTop (mkF m 28 #[.val (.ref a1), .val (.int (4 : Int32)), .val (.ref mr), .val (.ref b2)] [(.ref b2), (.int (0 : Int32)), (.ref a1)])) (fun _ k => XS.aloadN X2.here hx rfl (hb hby d9_27) rfl rfl k) ?_
  refine Go.via (S' := T2.setTop (mkF m 29 #[.val (.ref a1), .val (.int (4 : Int32)), .val (.ref mr), .val (.ref b2)] [(.int (0 : Int32)), (.ref b2), (.int (0 : Int32)), (.ref a1)])) (fun _ k => XS.iconst X2.here hx rfl (hb hby d9_28) k) ?_
  refine Go.via (S' := T2.setTop (mkF m 30 #[.val (.ref a1), .val (.int (4 : Int32)), .val (.ref mr), .val (.ref b2)] [(.ref a1), (.int (0 : Int32)), (.ref b2), (.int (0 : Int32)), (.ref a1)])) (fun _ k => XS.aloadN X2.here hx rfl (hb hby d9_29) rfl rfl k) ?_
  obtain ⟨c11, Ar11, -, S11, M11, -, -⟩ := id f6
  refine Go.via (S' := T2.setTop (mkF m 31 #[.val (.ref a1), .val (.int (4 : Int32)), .val (.ref mr), .val (.ref b2)] [(.int c11.slots.size.toInt32), (.int (0 : Int32)), (.ref b2), (.int (0 : Int32)), (.ref a1)])) (fun _ k => X2.arraylength hx (by rw [e2]; exact Ar11.1) (State.isArrayOf_alike hZ.alike Ar11.2.1) (g := (mkF m 30 #[.val (.ref a1), .val (.int (4 : Int32)), .val (.ref mr), .val (.ref b2)] [(.ref a1), (.int (0 : Int32)), (.ref b2), (.int (0 : Int32)), (.ref a1)])) rfl rfl (hb hby d9_30) _ k) ?_
  rw [len_of S11 M11]
  refine Go.via (S' := T2.setTop (mkF m 32 #[.val (.ref a1), .val (.int (4 : Int32)), .val (.ref mr), .val (.ref b2)] [(.int (4 : Int32)), (.int (0 : Int32)), (.int (0 : Int32)), (.ref b2), (.int (0 : Int32)), (.ref a1)])) (fun _ k => XS.iloadN X2.here hx rfl (hb hby d9_31) rfl k) ?_
  obtain ⟨_, _, ⟨T12, L12, k12, n12⟩, -, X12, ⟨Lc12, hQ12, l12, y12, z12⟩, st12⟩ := Jvm.LawKit.callS X2 hx (y := (⟨"java/lang/Math", "min", "(II)I"⟩ : MethodName)) hown (mvT hZ (hw _ (List.mem_of_getElem? (i := 61) rfl))) (mvT hZ (hw _ (List.mem_of_getElem? (i := 62) rfl))) (mvT hZ (hw _ (List.mem_of_getElem? (i := 43) rfl))) (mvT hZ (hw _ (List.mem_of_getElem? (i := 63) rfl))) (by decide) (backOf (W := 4) (rm10 l Z a0 hw [] (0 : Int32) (4 : Int32) h2 n0 z8) hZ (hw _ (List.mem_of_getElem? (i := 63) rfl)) (hw _ (List.mem_of_getElem? (i := 43) rfl)) (by decide) (by decide)) (g := (mkF m 32 #[.val (.ref a1), .val (.int (4 : Int32)), .val (.ref mr), .val (.ref b2)] [(.int (4 : Int32)), (.int (0 : Int32)), (.int (0 : Int32)), (.ref b2), (.int (0 : Int32)), (.ref a1)])) rfl (by rw [hml]; rfl) (argsL := [(.int (0 : Int32)), (.int (4 : Int32))]) (rest := [(.int (0 : Int32)), (.ref b2), (.int (0 : Int32)), (.ref a1)]) (lenOf pd_2 rfl) rfl (by show 2 * 0 + _ ≤ _; exact Nat.le_of_eq rfl) (hb hby d9_32) (fun _ _ => ⟨rfl, e2, (by decide : 1 + 0 ≤ _), (by decide : 4 + 0 ≤ _)⟩)
  dsimp only [Pt.U, Pt.locs, Pt.cells, Pt.slots] at X12 l12 y12 z12 st12 hQ12
  subst l12 y12 z12
  obtain ⟨r12, rfl, N12q, e12, hr12⟩ := hQ12
  obtain rfl : r12 = (0 : Int32) := Int32.toInt_inj.mp (hr12.trans (by decide))
  have N13 := Fr.app N0 N12q
  refine Go.via (S' := T12.setTop (mkF m 35 #[.val (.ref a1), .val (.int (4 : Int32)), .val (.ref mr), .val (.ref b2)] [(.int (0 : Int32)), (.int (0 : Int32)), (.ref b2), (.int (0 : Int32)), (.ref a1)])) (fun _ k => st12 _ k) ?_
  obtain ⟨cq14, Aq14, qq14, -⟩ := id V10
  obtain ⟨T14, h14, L14, X14, e14, N14, K14, V14, st14⟩ := cpA X12 hx hZ hown (hw _ (List.mem_of_getElem? (i := 64) rfl)) (hw _ (List.mem_of_getElem? (i := 67) rfl)) (hw _ (List.mem_of_getElem? (i := 65) rfl)) (hw _ (List.mem_of_getElem? (i := 66) rfl)) e12 f6 V10 (us := []) (Or.inr ⟨rfl, rfl, trivial⟩) (by decide) (by decide) (by decide) (by decide) (by decide) rfl (by decide) N13 g4 (g := (mkF m 35 #[.val (.ref a1), .val (.int (4 : Int32)), .val (.ref mr), .val (.ref b2)] [(.int (0 : Int32)), (.int (0 : Int32)), (.ref b2), (.int (0 : Int32)), (.ref a1)])) rfl (by rw [hml]; rfl) rfl (hb hby d9_35) (by decide) (W := 0) (by show 2 * 0 + _ ≤ _; exact Nat.le_of_eq rfl) (by decide)
  have f15 := f6.keep K14 (ninS ne3 nin0)
  have f16 := f7.keep K14
  have f17 := Ex2.keep K14
  have z18 := Nat.le_trans z8 K14.1
  have K19 := K9.trans K14 (allS (Or.inr g5) all0)
  have Vc14 : Arv Z h14 b2 k2 (.object "java/lang/Object") (4 : Int32) [.null, .null, .null, .null] .null := V14
  refine Go.via (S' := T14.setTop (mkF m 38 #[.val (.ref a1), .val (.int (4 : Int32)), .val (.ref mr), .val (.ref b2)] [])) (fun _ k => st14 _ k) ?_
  refine Go.via (S' := T14.setTop (mkF m 39 #[.val (.ref a1), .val (.int (4 : Int32)), .val (.ref mr), .val (.ref b2)] [(.ref b2)])) (fun _ k => XS.aloadN X14.here hx rfl (hb hby d9_38) rfl rfl k) ?_
  exact Go.retA X14 hx (BodyLoose.notSynchronized Bd) Bd.returns rfl rfl rfl (hb hby d9_39) (by rw [e14]; exact ⟨_, _, rfl, N14, K19, g4, g5, f17, O2, Vc14⟩) (by decide) (by decide)
theorem d8_0 : decode jdk_65_method_119_code 0 = .ok (.aload_n 0, 1) := by decide +kernel
theorem d8_1 : decode jdk_65_method_119_code 1 = .ok (.iload_n 1, 1) := by decide +kernel
theorem d8_2 : decode jdk_65_method_119_code 2 = .ok (.aload_n 0, 1) := by decide +kernel
theorem d8_3 : decode jdk_65_method_119_code 3 = .ok (.invokevirtual 86, 3) := by decide +kernel
theorem d8_6 : decode jdk_65_method_119_code 6 = .ok (.invokestatic 300, 3) := by decide +kernel
theorem pd_3 : parseMethodDescriptor "([Ljava/lang/Object;ILjava/lang/Class;)[Ljava/lang/Object;" = some ⟨[(.array (.object "java/lang/Object")), .int, (.object "java/lang/Class")], some (.array (.object "java/lang/Object"))⟩ := by decide +kernel
theorem d8_9 : decode jdk_65_method_119_code 9 = .ok (.areturn, 1) := by decide +kernel
theorem ef_8c0 (m : MethodId) (x0 : Addr) (x1 : Int32) : entryFrame m #[(.ref x0), (.int x1)] 2 = mkF m 0 #[.val (.ref x0), .val (.int x1)] [] := by first | (simp [entryFrame, mkF, argsToLocals, Value.category]; done) | rfl
def Q8c0 (Z : State) (a1 : Addr) (p2 : Int32) (mr : Addr) (k : ClassId) (h0 : Heap) (n0 : Nat) (v : Option Value) (h : Heap) (L : List Loc) : Prop := ∃ (r : Addr) (kk : ClassId), v = some (.ref r) ∧ Fr n0 L ∧ Keep h0 h [] ∧ n0 ≤ r ∧ h0.size ≤ r ∧ Exa Z h r "[Ljava/lang/Object;" ∧ Ovr Z kk "java/lang/Object" ∧ Arv Z h r kk (.object "java/lang/Object") (4 : Int32) [.null, .null, .null, .null] .null
set_option maxRecDepth 65536 in
set_option maxHeartbeats 40000000 in
theorem rm8c0 (l : Launch) (Z : State) (a0 : Array Value) (hw : ∀ d ∈ tables_1, d.before a0 Z = true) (ws : List Jvm.Cond) (a1 : Addr) (p2 : Int32) (mr : Addr) (k : ClassId) (h0 : Heap) (n0 : Nat) (Z0 : n0 ≤ h0.size) (hp : p2 = 4) (V1 : Arv Z h0 a1 k (.object "java/lang/Object") (0 : Int32) [] .null) (E1 : Exa Z h0 a1 "[Ljava/lang/Object;") (Mr : Mir Z "[Ljava/lang/Object;" mr) :
    MetFree l (⟨"java/util/Arrays", "copyOf", "([Ljava/lang/Object;I)[Ljava/lang/Object;"⟩ : MethodName) (head1 (Jvm.Cond.code (⟨"java/util/Arrays", "copyOf", "([Ljava/lang/Object;I)[Ljava/lang/Object;"⟩ : MethodName) jdk_65_method_119_code 2 (some (.array (.object "java/lang/Object"))) :: ws) ({ frames := 2, cells := 1, slots := 4, locals := 75 } : Room)) (fun a U => a = #[(.ref a1), (.int p2)] ∧ Z.Warmed39 U.vm ∧ U.heap = h0) (fun _ _ _ _ _ => True) (fun _ U o U' => ∃ v L, o = .returned v ∧ Q8c0 Z a1 p2 mr k h0 n0 v U'.heap L ∧ FrameEnd U o U' L ({ frames := 2, cells := 1, slots := 4, locals := 75 } : Room).cells ({ frames := 2, cells := 1, slots := 4, locals := 75 } : Room).slots) := by
  refine MetFree.of_bodySF (plainFor_of_name pn_5) hisR ?_
  intro p e s m args below meth c s₁ Bd hml0 hP hK
  obtain ⟨rfl, hZ, hh⟩ := hP
  have hx := Bd.exec
  have hby := Bd.bytes
  have hml : c.maxLocals = 2 := hml0
  have hown : s.vm.findClass "java/util/Arrays" = some m.cls := findClass_of_methodNamed Bd.named
  have hnm := (name_of_methodNamed Bd.named Bd.method).1
  have X0 : Stand p l e ({ frames := 2, cells := 1, slots := 4, locals := 75 } : Room) s m #[(.ref a1), (.int p2)] below meth c s₁ [] 0 0 := Stand.of_body Bd
  have e0 : s₁.heap = h0 := by rw [← hh, Bd.state]; rfl
  have N0 := Fr.nil n0
  show Go p e below s (Q8c0 Z a1 p2 mr k h0 n0) ({ frames := 2, cells := 1, slots := 4, locals := 75 } : Room).cells ({ frames := 2, cells := 1, slots := 4, locals := 75 } : Room).slots _
  refine Go.via (S' := s₁.setTop (mkF m 0 #[.val (.ref a1), .val (.int p2)] [])) (fun t k => castTop (ef_8c0 m a1 p2) k) ?_
  subst hp
  refine Go.via (S' := s₁.setTop (mkF m 1 #[.val (.ref a1), .val (.int (4 : Int32))] [(.ref a1)])) (fun _ k => XS.aloadN X0.here hx rfl (hb hby d8_0) rfl rfl k) ?_
  refine Go.via (S' := s₁.setTop (mkF m 2 #[.val (.ref a1), .val (.int (4 : Int32))] [(.int (4 : Int32)), (.ref a1)])) (fun _ k => XS.iloadN X0.here hx rfl (hb hby d8_1) rfl k) ?_
  refine Go.via (S' := s₁.setTop (mkF m 3 #[.val (.ref a1), .val (.int (4 : Int32))] [(.ref a1), (.int (4 : Int32)), (.ref a1)])) (fun _ k => XS.aloadN X0.here hx rfl (hb hby d8_2) rfl rfl k) ?_
  obtain ⟨T1, X1, e1, st1⟩ := own_gc X0 hx hZ hown (hw _ (List.mem_of_getElem? (i := 49) rfl)) (hw _ (List.mem_of_getElem? (i := 50) rfl)) (hw _ (List.mem_of_getElem? (i := 52) rfl)) (hw _ (List.mem_of_getElem? (i := 51) rfl)) (hw _ (List.mem_of_getElem? (i := 53) rfl)) e0 E1 Mr (g := (mkF m 3 #[.val (.ref a1), .val (.int (4 : Int32))] [(.ref a1), (.int (4 : Int32)), (.ref a1)])) rfl (by rw [hml]; rfl) rfl (hb hby d8_3) (by decide) (W := 2) (by show 2 * 0 + _ ≤ _; exact Nat.le_of_eq rfl) (by decide)
  refine Go.via (S' := T1.setTop (mkF m 6 #[.val (.ref a1), .val (.int (4 : Int32))] [(.ref mr), (.int (4 : Int32)), (.ref a1)])) (fun _ k => st1 _ k) ?_
  obtain ⟨_, _, ⟨T2, L2, k2, n2⟩, -, X2, ⟨Lc2, hQ2, l2, y2, z2⟩, st2⟩ := Jvm.LawKit.callS X1 hx (y := (⟨"java/util/Arrays", "copyOf", "([Ljava/lang/Object;ILjava/lang/Class;)[Ljava/lang/Object;"⟩ : MethodName)) hown (mvT hZ (hw _ (List.mem_of_getElem? (i := 55) rfl))) (mvT hZ (hw _ (List.mem_of_getElem? (i := 56) rfl))) (mvT hZ (hw _ (List.mem_of_getElem? (i := 47) rfl))) (mvT hZ (hw _ (List.mem_of_getElem? (i := 57) rfl))) (by decide) (backOf (W := 0) (rm9c0 l Z a0 hw [] a1 (4 : Int32) mr k  h0 n0 Z0 rfl V1 E1  Mr) hZ (hw _ (List.mem_of_getElem? (i := 57) rfl)) (hw _ (List.mem_of_getElem? (i := 47) rfl)) (by decide) (by decide)) (g := (mkF m 6 #[.val (.ref a1), .val (.int (4 : Int32))] [(.ref mr), (.int (4 : Int32)), (.ref a1)])) rfl (by rw [hml]; rfl) (argsL := [(.ref a1), (.int (4 : Int32)), (.ref mr)]) (rest := []) (lenOf pd_3 rfl) rfl (by show 2 * 0 + _ ≤ _; exact Nat.le_of_eq rfl) (hb hby d8_6) (fun _ _ => ⟨rfl, e1, (by decide : 0 + 1 ≤ _), (by decide : 0 + 4 ≤ _)⟩)
  dsimp only [Pt.U, Pt.locs, Pt.cells, Pt.slots] at X2 l2 y2 z2 st2 hQ2
  subst l2 y2 z2
  obtain ⟨r2, kk2, rfl, N2q, K2, u12, u22, Er2, Or2, Vr2⟩ := hQ2
  have N3 := Fr.app N0 N2q
  have f4 := V1.keep K2 nin0
  have f5 := E1.keep K2
  have z6 := Nat.le_trans Z0 K2.1
  have K7 := (Keep.refl h0 []).trans K2 all0
  refine Go.via (S' := T2.setTop (mkF m 9 #[.val (.ref a1), .val (.int (4 : Int32))] [(.ref r2)])) (fun _ k => st2 _ k) ?_
  exact Go.retA X2 hx (BodyLoose.notSynchronized Bd) Bd.returns rfl rfl rfl (hb hby d8_9) ⟨_, _, rfl, N3, K7, u12, u22, Er2, Or2, Vr2⟩ (by decide) (by decide)
theorem ef_9c4 (m : MethodId) (x0 : Addr) (x1 : Int32) (x2 : Addr) : entryFrame m #[(.ref x0), (.int x1), (.ref x2)] 4 = mkF m 0 #[.val (.ref x0), .val (.int x1), .val (.ref x2), .unset] [] := by first | (simp [entryFrame, mkF, argsToLocals, Value.category]; done) | rfl
def Q9c4 (Z : State) (a1 : Addr) (p2 : Int32) (mr : Addr) (k : ClassId) (r0 : Addr) (r1 : Addr) (r2 : Addr) (r3 : Addr) (h0 : Heap) (n0 : Nat) (v : Option Value) (h : Heap) (L : List Loc) : Prop := ∃ (r : Addr) (kk : ClassId), v = some (.ref r) ∧ Fr n0 L ∧ Keep h0 h [] ∧ n0 ≤ r ∧ h0.size ≤ r ∧ Exa Z h r "[Ljava/lang/Object;" ∧ Ovr Z kk "java/lang/Object" ∧ Arv Z h r kk (.object "java/lang/Object") (8 : Int32) [(.ref r0), (.ref r1), (.ref r2), (.ref r3), .null, .null, .null, .null] .null
set_option maxRecDepth 65536 in
set_option maxHeartbeats 40000000 in
theorem rm9c4 (l : Launch) (Z : State) (a0 : Array Value) (hw : ∀ d ∈ tables_1, d.before a0 Z = true) (ws : List Jvm.Cond) (a1 : Addr) (p2 : Int32) (mr : Addr) (k : ClassId) (r0 : Addr) (r1 : Addr) (r2 : Addr) (r3 : Addr) (h0 : Heap) (n0 : Nat) (Z0 : n0 ≤ h0.size) (hp : p2 = 8) (V1 : Arv Z h0 a1 k (.object "java/lang/Object") (4 : Int32) [(.ref r0), (.ref r1), (.ref r2), (.ref r3)] .null) (E1 : Exa Z h0 a1 "[Ljava/lang/Object;") (I0 : Exa Z h0 r0 "java/lang/Integer") (I1 : Exa Z h0 r1 "java/lang/Integer") (I2 : Exa Z h0 r2 "java/lang/Integer") (I3 : Exa Z h0 r3 "java/lang/Integer") (Mr : Mir Z "[Ljava/lang/Object;" mr) :
    MetFree l (⟨"java/util/Arrays", "copyOf", "([Ljava/lang/Object;ILjava/lang/Class;)[Ljava/lang/Object;"⟩ : MethodName) (head1 (Jvm.Cond.code (⟨"java/util/Arrays", "copyOf", "([Ljava/lang/Object;ILjava/lang/Class;)[Ljava/lang/Object;"⟩ : MethodName) jdk_65_method_120_code 4 (some (.array (.object "java/lang/Object"))) :: ws) ({ frames := 1, cells := 1, slots := 8, locals := 60 } : Room)) (fun a U => a = #[(.ref a1), (.int p2), (.ref mr)] ∧ Z.Warmed39 U.vm ∧ U.heap = h0) (fun _ _ _ _ _ => True) (fun _ U o U' => ∃ v L, o = .returned v ∧ Q9c4 Z a1 p2 mr k r0 r1 r2 r3 h0 n0 v U'.heap L ∧ FrameEnd U o U' L ({ frames := 1, cells := 1, slots := 8, locals := 60 } : Room).cells ({ frames := 1, cells := 1, slots := 8, locals := 60 } : Room).slots) := by
  refine MetFree.of_bodySF (plainFor_of_name pn_5) hisR ?_
  intro p e s m args below meth c s₁ Bd hml0 hP hK
  obtain ⟨rfl, hZ, hh⟩ := hP
  have hx := Bd.exec
  have hby := Bd.bytes
  have hml : c.maxLocals = 4 := hml0
  have hown : s.vm.findClass "java/util/Arrays" = some m.cls := findClass_of_methodNamed Bd.named
  have hnm := (name_of_methodNamed Bd.named Bd.method).1
  have X0 : Stand p l e ({ frames := 1, cells := 1, slots := 8, locals := 60 } : Room) s m #[(.ref a1), (.int p2), (.ref mr)] below meth c s₁ [] 0 0 := Stand.of_body Bd
  have e0 : s₁.heap = h0 := by rw [← hh, Bd.state]; rfl
  have N0 := Fr.nil n0
  show Go p e below s (Q9c4 Z a1 p2 mr k r0 r1 r2 r3 h0 n0) ({ frames := 1, cells := 1, slots := 8, locals := 60 } : Room).cells ({ frames := 1, cells := 1, slots := 8, locals := 60 } : Room).slots _
  refine Go.via (S' := s₁.setTop (mkF m 0 #[.val (.ref a1), .val (.int p2), .val (.ref mr), .unset] [])) (fun t k => castTop (ef_9c4 m a1 p2 mr) k) ?_
  subst hp
  refine Go.via (S' := s₁.setTop (mkF m 1 #[.val (.ref a1), .val (.int (8 : Int32)), .val (.ref mr), .unset] [(.ref mr)])) (fun _ k => XS.aloadN X0.here hx rfl (hb hby d9_0) rfl rfl k) ?_
  obtain ⟨T1, X1, e1, st1⟩ := own_ldcm X0 hx hZ hown (hw _ (List.mem_of_getElem? (i := 58) rfl)) e0 Mr (g := (mkF m 1 #[.val (.ref a1), .val (.int (8 : Int32)), .val (.ref mr), .unset] [(.ref mr)])) rfl (hb hby d9_1)
  refine Go.via (S' := T1.setTop (mkF m 3 #[.val (.ref a1), .val (.int (8 : Int32)), .val (.ref mr), .unset] [(.ref mr), (.ref mr)])) (fun _ k => st1 _ k) ?_
  refine Go.via (S' := T1.setTop (mkF m 6 #[.val (.ref a1), .val (.int (8 : Int32)), .val (.ref mr), .unset] [])) (fun _ k => Jvm.RoadKit.acmp (g := (mkF m 3 #[.val (.ref a1), .val (.int (8 : Int32)), .val (.ref mr), .unset] [(.ref mr), (.ref mr)])) X1 hx rfl rfl rfl (pc0 := 3) (pc' := 6) (same := true) rfl (hb hby d9_3) rfl (decide_eq_true rfl) (by decide) (by decide) k) ?_
  refine Go.via (S' := T1.setTop (mkF m 7 #[.val (.ref a1), .val (.int (8 : Int32)), .val (.ref mr), .unset] [(.int (8 : Int32))])) (fun _ k => XS.iloadN X1.here hx rfl (hb hby d9_6) rfl k) ?_
  obtain ⟨T2, h2, k2, X2, e2, E2, A2, Ex2, O2, st2⟩ := newRE X1 hx hZ hown (hw _ (List.mem_of_getElem? (i := 59) rfl)) (hw _ (List.mem_of_getElem? (i := 60) rfl)) e1 (g := (mkF m 7 #[.val (.ref a1), .val (.int (8 : Int32)), .val (.ref mr), .unset] [(.int (8 : Int32))])) rfl (hb hby d9_7) rfl (by decide) (cap := 8) (by decide) (by decide) (by decide) (by decide) (ad := "[Ljava/lang/Object;") (by decide)
  obtain ⟨b2, g2⟩ : ∃ z, z = h0.size := ⟨_, rfl⟩
  rw [← g2] at A2 Ex2 st2
  have ne3 : a1 ≠ b2 := Nat.ne_of_lt (Nat.lt_of_lt_of_le V1.lt (Nat.le_of_eq g2.symm))
  have ne4 : r0 ≠ b2 := Nat.ne_of_lt (Nat.lt_of_lt_of_le I0.lt (Nat.le_of_eq g2.symm))
  have ne5 : r1 ≠ b2 := Nat.ne_of_lt (Nat.lt_of_lt_of_le I1.lt (Nat.le_of_eq g2.symm))
  have ne6 : r2 ≠ b2 := Nat.ne_of_lt (Nat.lt_of_lt_of_le I2.lt (Nat.le_of_eq g2.symm))
  have ne7 : r3 ≠ b2 := Nat.ne_of_lt (Nat.lt_of_lt_of_le I3.lt (Nat.le_of_eq g2.symm))
  have g8 : n0 ≤ b2 := Nat.le_trans Z0 (Nat.le_of_eq g2.symm)
  have g9 : h0.size ≤ b2 := Nat.le_trans (Keep.refl h0 []).1 (Nat.le_of_eq g2.symm)
  have f10 := V1.ext E2
  have f11 := E1.ext E2
  have f12 := I0.ext E2
  have f13 := I1.ext E2
  have f14 := I2.ext E2
  have f15 := I3.ext E2
  have z16 := Nat.le_trans Z0 E2.1
  have K17 := (Keep.refl h0 []).ext E2
  have V18 : Arv Z h2 b2 k2 (.object "java/lang/Object") (8 : Int32) [.null, .null, .null, .null, .null, .null, .null, .null] .null := (Arv.new A2 (by decide)).pad (pad_rep [] .null 8)
  refine Go.via (S' := T2.setTop (mkF m 10 #[.val (.ref a1), .val (.int (8 : Int32)), .val (.ref mr), .unset] [(.ref b2)])) (fun _ k => st2 _ k) ?_
  refine Go.via (S' := T2.setTop (mkF m 24 #[.val (.ref a1), .val (.int (8 : Int32)), .val (.ref mr), .unset] [(.ref b2)])) (fun _ k => XS.goto X2.here hx rfl (pc0 := 10) (pc' := 24) rfl (hb hby d9_10) (by decide) (by decide) k) ?_
  refine Go.via (S' := T2.setTop (mkF m 25 #[.val (.ref a1), .val (.int (8 : Int32)), .val (.ref mr), .val (.ref b2)] [])) (fun _ k => XS.astoreN X2.here hx rfl (hb hby d9_24) rfl rfl (l' := #[.val (.ref a1), .val (.int (8 : Int32)), .val (.ref mr), .val (.ref b2)]) rfl k) ?_
  refine Go.via (S' := T2.setTop (mkF m 26 #[.val (.ref a1), .val (.int (8 : Int32)), .val (.ref mr), .val (.ref b2)] [(.ref a1)])) (fun _ k => XS.aloadN X2.here hx rfl (hb hby d9_25) rfl rfl k) ?_
  refine Go.via (S' := T2.setTop (mkF m 27 #[.val (.ref a1), .val (.int (8 : Int32)), .val (.ref mr), .val (.ref b2)] [(.int (0 : Int32)), (.ref a1)])) (fun _ k => XS.iconst X2.here hx rfl (hb hby d9_26) k) ?_
  refine Go.via (S' := T2.setTop (mkF m 28 #[.val (.ref a1), .val (.int (8 : Int32)), .val (.ref mr), .val (.ref b2)] [(.ref b2), (.int (0 : Int32)), (.ref a1)])) (fun _ k => XS.aloadN X2.here hx rfl (hb hby d9_27) rfl rfl k) ?_
  refine Go.via (S' := T2.setTop (mkF m 29 #[.val (.ref a1), .val (.int (8 : Int32)), .val (.ref mr), .val (.ref b2)] [(.int (0 : Int32)), (.ref b2), (.int (0 : Int32)), (.ref a1)])) (fun _ k => XS.iconst X2.here hx rfl (hb hby d9_28) k) ?_
  refine Go.via (S' := T2.setTop (mkF m 30 #[.val (.ref a1), .val (.int (8 : Int32)), .val (.ref mr), .val (.ref b2)] [(.ref a1), (.int (0 : Int32)), (.ref b2), (.int (0 : Int32)), (.ref a1)])) (fun _ k => XS.aloadN X2.here hx rfl (hb hby d9_29) rfl rfl k) ?_
  obtain ⟨c19, Ar19, -, S19, M19, -, -⟩ := id f10
  refine Go.via (S' := T2.setTop (mkF m 31 #[.val (.ref a1), .val (.int (8 : Int32)), .val (.ref mr), .val (.ref b2)] [(.int c19.slots.size.toInt32), (.int (0 : Int32)), (.ref b2), (.int (0 : Int32)), (.ref a1)])) (fun _ k => X2.arraylength hx (by rw [e2]; exact Ar19.1) (State.isArrayOf_alike hZ.alike Ar19.2.1) (g := (mkF m 30 #[.val (.ref a1), .val (.int (8 : Int32)), .val (.ref mr), .val (.ref b2)] [(.ref a1), (.int (0 : Int32)), (.ref b2), (.int (0 : Int32)), (.ref a1)])) rfl rfl (hb hby d9_30) _ k) ?_
  rw [len_of S19 M19]
  refine Go.via (S' := T2.setTop (mkF m 32 #[.val (.ref a1), .val (.int (8 : Int32)), .val (.ref mr), .val (.ref b2)] [(.int (8 : Int32)), (.int (4 : Int32)), (.int (0 : Int32)), (.ref b2), (.int (0 : Int32)), (.ref a1)])) (fun _ k => XS.iloadN X2.here hx rfl (hb hby d9_31) rfl k) ?_
  obtain ⟨_, _, ⟨T20, L20, k20, n20⟩, -, X20, ⟨Lc20, hQ20, l20, y20, z20⟩, st20⟩ := Jvm.LawKit.callS X2 hx (y := (⟨"java/lang/Math", "min", "(II)I"⟩ : MethodName)) hown (mvT hZ (hw _ (List.mem_of_getElem? (i := 61) rfl))) (mvT hZ (hw _ (List.mem_of_getElem? (i := 62) rfl))) (mvT hZ (hw _ (List.mem_of_getElem? (i := 43) rfl))) (mvT hZ (hw _ (List.mem_of_getElem? (i := 63) rfl))) (by decide) (backOf (W := 4) (rm10 l Z a0 hw [] (4 : Int32) (8 : Int32) h2 n0 z16) hZ (hw _ (List.mem_of_getElem? (i := 63) rfl)) (hw _ (List.mem_of_getElem? (i := 43) rfl)) (by decide) (by decide)) (g := (mkF m 32 #[.val (.ref a1), .val (.int (8 : Int32)), .val (.ref mr), .val (.ref b2)] [(.int (8 : Int32)), (.int (4 : Int32)), (.int (0 : Int32)), (.ref b2), (.int (0 : Int32)), (.ref a1)])) rfl (by rw [hml]; rfl) (argsL := [(.int (4 : Int32)), (.int (8 : Int32))]) (rest := [(.int (0 : Int32)), (.ref b2), (.int (0 : Int32)), (.ref a1)]) (lenOf pd_2 rfl) rfl (by show 2 * 0 + _ ≤ _; exact Nat.le_of_eq rfl) (hb hby d9_32) (fun _ _ => ⟨rfl, e2, (by decide : 1 + 0 ≤ _), (by decide : 8 + 0 ≤ _)⟩)
  dsimp only [Pt.U, Pt.locs, Pt.cells, Pt.slots] at X20 l20 y20 z20 st20 hQ20
  subst l20 y20 z20
  obtain ⟨r20, rfl, N20q, e20, hr20⟩ := hQ20
  obtain rfl : r20 = (4 : Int32) := Int32.toInt_inj.mp (hr20.trans (by decide))
  have N21 := Fr.app N0 N20q
  refine Go.via (S' := T20.setTop (mkF m 35 #[.val (.ref a1), .val (.int (8 : Int32)), .val (.ref mr), .val (.ref b2)] [(.int (4 : Int32)), (.int (0 : Int32)), (.ref b2), (.int (0 : Int32)), (.ref a1)])) (fun _ k => st20 _ k) ?_
  obtain ⟨cq22, Aq22, qq22, -⟩ := id V18
  obtain ⟨T22, h22, L22, X22, e22, N22, K22, V22, st22⟩ := cpA X20 hx hZ hown (hw _ (List.mem_of_getElem? (i := 64) rfl)) (hw _ (List.mem_of_getElem? (i := 67) rfl)) (hw _ (List.mem_of_getElem? (i := 65) rfl)) (hw _ (List.mem_of_getElem? (i := 66) rfl)) e20 f10 V18 (us := [(.ref r0), (.ref r1), (.ref r2), (.ref r3)]) (Or.inr ⟨rfl, rfl, ⟨Sto.ofV Aq22 qq22 O2 (Ins.of_exa f12 (hw _ (List.mem_of_getElem? (i := 68) rfl))), ⟨Sto.ofV Aq22 qq22 O2 (Ins.of_exa f13 (hw _ (List.mem_of_getElem? (i := 68) rfl))), ⟨Sto.ofV Aq22 qq22 O2 (Ins.of_exa f14 (hw _ (List.mem_of_getElem? (i := 68) rfl))), ⟨Sto.ofV Aq22 qq22 O2 (Ins.of_exa f15 (hw _ (List.mem_of_getElem? (i := 68) rfl))), trivial⟩⟩⟩⟩⟩) (by decide) (by decide) (by decide) (by decide) (by decide) rfl (by decide) N21 g8 (g := (mkF m 35 #[.val (.ref a1), .val (.int (8 : Int32)), .val (.ref mr), .val (.ref b2)] [(.int (4 : Int32)), (.int (0 : Int32)), (.ref b2), (.int (0 : Int32)), (.ref a1)])) rfl (by rw [hml]; rfl) rfl (hb hby d9_35) (by decide) (W := 0) (by show 2 * 0 + _ ≤ _; exact Nat.le_of_eq rfl) (by decide)
  have f23 := f10.keep K22 (ninS ne3 nin0)
  have f24 := f11.keep K22
  have f25 := f12.keep K22
  have f26 := f13.keep K22
  have f27 := f14.keep K22
  have f28 := f15.keep K22
  have f29 := Ex2.keep K22
  have z30 := Nat.le_trans z16 K22.1
  have K31 := K17.trans K22 (allS (Or.inr g9) all0)
  have Vc22 : Arv Z h22 b2 k2 (.object "java/lang/Object") (8 : Int32) [(.ref r0), (.ref r1), (.ref r2), (.ref r3), .null, .null, .null, .null] .null := V22
  refine Go.via (S' := T22.setTop (mkF m 38 #[.val (.ref a1), .val (.int (8 : Int32)), .val (.ref mr), .val (.ref b2)] [])) (fun _ k => st22 _ k) ?_
  refine Go.via (S' := T22.setTop (mkF m 39 #[.val (.ref a1), .val (.int (8 : Int32)), .val (.ref mr), .val (.ref b2)] [(.ref b2)])) (fun _ k => XS.aloadN X22.here hx rfl (hb hby d9_38) rfl rfl k) ?_
  exact Go.retA X22 hx (BodyLoose.notSynchronized Bd) Bd.returns rfl rfl rfl (hb hby d9_39) (by rw [e22]; exact ⟨_, _, rfl, N22, K31, g8, g9, f29, O2, Vc22⟩) (by decide) (by decide)
theorem ef_8c4 (m : MethodId) (x0 : Addr) (x1 : Int32) : entryFrame m #[(.ref x0), (.int x1)] 2 = mkF m 0 #[.val (.ref x0), .val (.int x1)] [] := by first | (simp [entryFrame, mkF, argsToLocals, Value.category]; done) | rfl
def Q8c4 (Z : State) (a1 : Addr) (p2 : Int32) (mr : Addr) (k : ClassId) (r0 : Addr) (r1 : Addr) (r2 : Addr) (r3 : Addr) (h0 : Heap) (n0 : Nat) (v : Option Value) (h : Heap) (L : List Loc) : Prop := ∃ (r : Addr) (kk : ClassId), v = some (.ref r) ∧ Fr n0 L ∧ Keep h0 h [] ∧ n0 ≤ r ∧ h0.size ≤ r ∧ Exa Z h r "[Ljava/lang/Object;" ∧ Ovr Z kk "java/lang/Object" ∧ Arv Z h r kk (.object "java/lang/Object") (8 : Int32) [(.ref r0), (.ref r1), (.ref r2), (.ref r3), .null, .null, .null, .null] .null
set_option maxRecDepth 65536 in
set_option maxHeartbeats 40000000 in
theorem rm8c4 (l : Launch) (Z : State) (a0 : Array Value) (hw : ∀ d ∈ tables_1, d.before a0 Z = true) (ws : List Jvm.Cond) (a1 : Addr) (p2 : Int32) (mr : Addr) (k : ClassId) (r0 : Addr) (r1 : Addr) (r2 : Addr) (r3 : Addr) (h0 : Heap) (n0 : Nat) (Z0 : n0 ≤ h0.size) (hp : p2 = 8) (V1 : Arv Z h0 a1 k (.object "java/lang/Object") (4 : Int32) [(.ref r0), (.ref r1), (.ref r2), (.ref r3)] .null) (E1 : Exa Z h0 a1 "[Ljava/lang/Object;") (I0 : Exa Z h0 r0 "java/lang/Integer") (I1 : Exa Z h0 r1 "java/lang/Integer") (I2 : Exa Z h0 r2 "java/lang/Integer") (I3 : Exa Z h0 r3 "java/lang/Integer") (Mr : Mir Z "[Ljava/lang/Object;" mr) :
    MetFree l (⟨"java/util/Arrays", "copyOf", "([Ljava/lang/Object;I)[Ljava/lang/Object;"⟩ : MethodName) (head1 (Jvm.Cond.code (⟨"java/util/Arrays", "copyOf", "([Ljava/lang/Object;I)[Ljava/lang/Object;"⟩ : MethodName) jdk_65_method_119_code 2 (some (.array (.object "java/lang/Object"))) :: ws) ({ frames := 2, cells := 1, slots := 8, locals := 75 } : Room)) (fun a U => a = #[(.ref a1), (.int p2)] ∧ Z.Warmed39 U.vm ∧ U.heap = h0) (fun _ _ _ _ _ => True) (fun _ U o U' => ∃ v L, o = .returned v ∧ Q8c4 Z a1 p2 mr k r0 r1 r2 r3 h0 n0 v U'.heap L ∧ FrameEnd U o U' L ({ frames := 2, cells := 1, slots := 8, locals := 75 } : Room).cells ({ frames := 2, cells := 1, slots := 8, locals := 75 } : Room).slots) := by
  refine MetFree.of_bodySF (plainFor_of_name pn_5) hisR ?_
  intro p e s m args below meth c s₁ Bd hml0 hP hK
  obtain ⟨rfl, hZ, hh⟩ := hP
  have hx := Bd.exec
  have hby := Bd.bytes
  have hml : c.maxLocals = 2 := hml0
  have hown : s.vm.findClass "java/util/Arrays" = some m.cls := findClass_of_methodNamed Bd.named
  have hnm := (name_of_methodNamed Bd.named Bd.method).1
  have X0 : Stand p l e ({ frames := 2, cells := 1, slots := 8, locals := 75 } : Room) s m #[(.ref a1), (.int p2)] below meth c s₁ [] 0 0 := Stand.of_body Bd
  have e0 : s₁.heap = h0 := by rw [← hh, Bd.state]; rfl
  have N0 := Fr.nil n0
  show Go p e below s (Q8c4 Z a1 p2 mr k r0 r1 r2 r3 h0 n0) ({ frames := 2, cells := 1, slots := 8, locals := 75 } : Room).cells ({ frames := 2, cells := 1, slots := 8, locals := 75 } : Room).slots _
  refine Go.via (S' := s₁.setTop (mkF m 0 #[.val (.ref a1), .val (.int p2)] [])) (fun t k => castTop (ef_8c4 m a1 p2) k) ?_
  subst hp
  refine Go.via (S' := s₁.setTop (mkF m 1 #[.val (.ref a1), .val (.int (8 : Int32))] [(.ref a1)])) (fun _ k => XS.aloadN X0.here hx rfl (hb hby d8_0) rfl rfl k) ?_
  refine Go.via (S' := s₁.setTop (mkF m 2 #[.val (.ref a1), .val (.int (8 : Int32))] [(.int (8 : Int32)), (.ref a1)])) (fun _ k => XS.iloadN X0.here hx rfl (hb hby d8_1) rfl k) ?_
  refine Go.via (S' := s₁.setTop (mkF m 3 #[.val (.ref a1), .val (.int (8 : Int32))] [(.ref a1), (.int (8 : Int32)), (.ref a1)])) (fun _ k => XS.aloadN X0.here hx rfl (hb hby d8_2) rfl rfl k) ?_
  obtain ⟨T1, X1, e1, st1⟩ := own_gc X0 hx hZ hown (hw _ (List.mem_of_getElem? (i := 49) rfl)) (hw _ (List.mem_of_getElem? (i := 50) rfl)) (hw _ (List.mem_of_getElem? (i := 52) rfl)) (hw _ (List.mem_of_getElem? (i := 51) rfl)) (hw _ (List.mem_of_getElem? (i := 53) rfl)) e0 E1 Mr (g := (mkF m 3 #[.val (.ref a1), .val (.int (8 : Int32))] [(.ref a1), (.int (8 : Int32)), (.ref a1)])) rfl (by rw [hml]; rfl) rfl (hb hby d8_3) (by decide) (W := 2) (by show 2 * 0 + _ ≤ _; exact Nat.le_of_eq rfl) (by decide)
  refine Go.via (S' := T1.setTop (mkF m 6 #[.val (.ref a1), .val (.int (8 : Int32))] [(.ref mr), (.int (8 : Int32)), (.ref a1)])) (fun _ k => st1 _ k) ?_
  obtain ⟨_, _, ⟨T2, L2, k2, n2⟩, -, X2, ⟨Lc2, hQ2, l2, y2, z2⟩, st2⟩ := Jvm.LawKit.callS X1 hx (y := (⟨"java/util/Arrays", "copyOf", "([Ljava/lang/Object;ILjava/lang/Class;)[Ljava/lang/Object;"⟩ : MethodName)) hown (mvT hZ (hw _ (List.mem_of_getElem? (i := 55) rfl))) (mvT hZ (hw _ (List.mem_of_getElem? (i := 56) rfl))) (mvT hZ (hw _ (List.mem_of_getElem? (i := 47) rfl))) (mvT hZ (hw _ (List.mem_of_getElem? (i := 57) rfl))) (by decide) (backOf (W := 0) (rm9c4 l Z a0 hw [] a1 (8 : Int32) mr k r0 r1 r2 r3 h0 n0 Z0 rfl V1 E1 I0 I1 I2 I3 Mr) hZ (hw _ (List.mem_of_getElem? (i := 57) rfl)) (hw _ (List.mem_of_getElem? (i := 47) rfl)) (by decide) (by decide)) (g := (mkF m 6 #[.val (.ref a1), .val (.int (8 : Int32))] [(.ref mr), (.int (8 : Int32)), (.ref a1)])) rfl (by rw [hml]; rfl) (argsL := [(.ref a1), (.int (8 : Int32)), (.ref mr)]) (rest := []) (lenOf pd_3 rfl) rfl (by show 2 * 0 + _ ≤ _; exact Nat.le_of_eq rfl) (hb hby d8_6) (fun _ _ => ⟨rfl, e1, (by decide : 0 + 1 ≤ _), (by decide : 0 + 8 ≤ _)⟩)
  dsimp only [Pt.U, Pt.locs, Pt.cells, Pt.slots] at X2 l2 y2 z2 st2 hQ2
  subst l2 y2 z2
  obtain ⟨r2, kk2, rfl, N2q, K2, u12, u22, Er2, Or2, Vr2⟩ := hQ2
  have N3 := Fr.app N0 N2q
  have f4 := V1.keep K2 nin0
  have f5 := E1.keep K2
  have f6 := I0.keep K2
  have f7 := I1.keep K2
  have f8 := I2.keep K2
  have f9 := I3.keep K2
  have z10 := Nat.le_trans Z0 K2.1
  have K11 := (Keep.refl h0 []).trans K2 all0
  refine Go.via (S' := T2.setTop (mkF m 9 #[.val (.ref a1), .val (.int (8 : Int32))] [(.ref r2)])) (fun _ k => st2 _ k) ?_
  exact Go.retA X2 hx (BodyLoose.notSynchronized Bd) Bd.returns rfl rfl rfl (hb hby d8_9) ⟨_, _, rfl, N3, K11, u12, u22, Er2, Or2, Vr2⟩ (by decide) (by decide)
theorem d6_0 : decode prog_8_method_2_code 0 = .ok (.aload_n 0, 1) := by decide +kernel
theorem d6_1 : decode prog_8_method_2_code 1 = .ok (.getfield 16, 3) := by decide +kernel
theorem d6_4 : decode prog_8_method_2_code 4 = .ok (.aload_n 0, 1) := by decide +kernel
theorem d6_5 : decode prog_8_method_2_code 5 = .ok (.getfield 13, 3) := by decide +kernel
theorem d6_8 : decode prog_8_method_2_code 8 = .ok (.arraylength, 1) := by decide +kernel
theorem d6_9 : decode prog_8_method_2_code 9 = .ok (.if_icmp .ne 24, 3) := by decide +kernel
theorem d6_12 : decode prog_8_method_2_code 12 = .ok (.aload_n 0, 1) := by decide +kernel
theorem d6_13 : decode prog_8_method_2_code 13 = .ok (.aload_n 0, 1) := by decide +kernel
theorem d6_14 : decode prog_8_method_2_code 14 = .ok (.getfield 13, 3) := by decide +kernel
theorem d6_17 : decode prog_8_method_2_code 17 = .ok (.iconst 4, 1) := by decide +kernel
theorem d6_18 : decode prog_8_method_2_code 18 = .ok (.iconst 2, 1) := by decide +kernel
theorem d6_19 : decode prog_8_method_2_code 19 = .ok (.aload_n 0, 1) := by decide +kernel
theorem d6_20 : decode prog_8_method_2_code 20 = .ok (.getfield 16, 3) := by decide +kernel
theorem d6_23 : decode prog_8_method_2_code 23 = .ok (.imul, 1) := by decide +kernel
theorem d6_24 : decode prog_8_method_2_code 24 = .ok (.invokestatic 20, 3) := by decide +kernel
theorem d6_27 : decode prog_8_method_2_code 27 = .ok (.invokestatic 26, 3) := by decide +kernel
theorem pd_4 : parseMethodDescriptor "([Ljava/lang/Object;I)[Ljava/lang/Object;" = some ⟨[(.array (.object "java/lang/Object")), .int], some (.array (.object "java/lang/Object"))⟩ := by decide +kernel
theorem d6_30 : decode prog_8_method_2_code 30 = .ok (.putfield 13, 3) := by decide +kernel
theorem d6_33 : decode prog_8_method_2_code 33 = .ok (.aload_n 0, 1) := by decide +kernel
theorem d6_34 : decode prog_8_method_2_code 34 = .ok (.getfield 13, 3) := by decide +kernel
theorem d6_37 : decode prog_8_method_2_code 37 = .ok (.aload_n 0, 1) := by decide +kernel
theorem d6_38 : decode prog_8_method_2_code 38 = .ok (.dup, 1) := by decide +kernel
theorem d6_39 : decode prog_8_method_2_code 39 = .ok (.getfield 16, 3) := by decide +kernel
theorem d6_42 : decode prog_8_method_2_code 42 = .ok (.dup_x1, 1) := by decide +kernel
theorem d6_43 : decode prog_8_method_2_code 43 = .ok (.iconst 1, 1) := by decide +kernel
theorem d6_44 : decode prog_8_method_2_code 44 = .ok (.iadd, 1) := by decide +kernel
theorem d6_45 : decode prog_8_method_2_code 45 = .ok (.putfield 16, 3) := by decide +kernel
theorem d6_48 : decode prog_8_method_2_code 48 = .ok (.aload_n 1, 1) := by decide +kernel
theorem d6_49 : decode prog_8_method_2_code 49 = .ok (.aastore, 1) := by decide +kernel
theorem d6_50 : decode prog_8_method_2_code 50 = .ok (.aload_n 0, 1) := by decide +kernel
theorem d6_51 : decode prog_8_method_2_code 51 = .ok (.dup, 1) := by decide +kernel
theorem d6_52 : decode prog_8_method_2_code 52 = .ok (.getfield 32, 3) := by decide +kernel
theorem d6_55 : decode prog_8_method_2_code 55 = .ok (.iconst 1, 1) := by decide +kernel
theorem d6_56 : decode prog_8_method_2_code 56 = .ok (.iadd, 1) := by decide +kernel
theorem d6_57 : decode prog_8_method_2_code 57 = .ok (.putfield 32, 3) := by decide +kernel
theorem d6_60 : decode prog_8_method_2_code 60 = .ok (.return_, 1) := by decide +kernel
theorem ef_6m0 (m : MethodId) (x0 : Addr) (x1 : Addr) : entryFrame m #[(.ref x0), (.ref x1)] 2 = mkF m 0 #[.val (.ref x0), .val (.ref x1)] [] := by first | (simp [entryFrame, mkF, argsToLocals, Value.category]; done) | rfl
def Q6m0 (Z : State) (a1 : Addr) (e_ : Addr) (ar : Addr) (k : ClassId) (mc : Int32) (mr : Addr) (h0 : Heap) (n0 : Nat) (v : Option Value) (h : Heap) (L : List Loc) : Prop := v = none ∧ Fr n0 L ∧ Keep h0 h [a1] ∧ ∃ (ar2 : Addr) (k2 : ClassId), n0 ≤ ar2 ∧ h0.size ≤ ar2 ∧ Exa Z h ar2 "[Ljava/lang/Object;" ∧ Ovr Z k2 "java/lang/Object" ∧ Fld Z h a1 "java/util/AbstractList" "modCount" "I" (.int (mc + 1)) ∧ Fld Z h a1 "com/example/tidegraph/tidegraph/graph/ElementList" "elements" "[Ljava/lang/Object;" (.ref ar2) ∧ Fld Z h a1 "com/example/tidegraph/tidegraph/graph/ElementList" "size" "I" (.int (1 : Int32)) ∧ Arv Z h ar2 k2 (.object "java/lang/Object") (4 : Int32) [(.ref e_), .null, .null, .null] .null
set_option maxRecDepth 65536 in
set_option maxHeartbeats 40000000 in
theorem rm6m0 (l : Launch) (Z : State) (a0 : Array Value) (hw : ∀ d ∈ tables_1, d.before a0 Z = true) (ws : List Jvm.Cond) (a1 : Addr) (e_ : Addr) (ar : Addr) (k : ClassId) (mc : Int32) (mr : Addr) (h0 : Heap) (n0 : Nat) (Z0 : n0 ≤ h0.size) (E1 : Exa Z h0 a1 "com/example/tidegraph/tidegraph/graph/ElementList") (Fm : Fld Z h0 a1 "java/util/AbstractList" "modCount" "I" (.int mc)) (Fe : Fld Z h0 a1 "com/example/tidegraph/tidegraph/graph/ElementList" "elements" "[Ljava/lang/Object;" (.ref ar)) (Fs : Fld Z h0 a1 "com/example/tidegraph/tidegraph/graph/ElementList" "size" "I" (.int (0 : Int32))) (g1 : n0 ≤ a1) (V1 : Arv Z h0 ar k (.object "java/lang/Object") (0 : Int32) [] .null) (Ea : Exa Z h0 ar "[Ljava/lang/Object;") (nea : ar ≠ a1) (Ee : Exa Z h0 e_ "java/lang/Integer") (ne1 : e_ ≠ a1) (ne2 : e_ ≠ ar) (Mr : Mir Z "[Ljava/lang/Object;" mr) :
    MetFree l (⟨"com/example/tidegraph/tidegraph/graph/ElementList", "append", "(Ljava/lang/Object;)V"⟩ : MethodName) (head1 (Jvm.Cond.code (⟨"com/example/tidegraph/tidegraph/graph/ElementList", "append", "(Ljava/lang/Object;)V"⟩ : MethodName) prog_8_method_2_code 2 none :: ws) ({ frames := 3, cells := 1, slots := 4, locals := 89 } : Room)) (fun a U => a = #[(.ref a1), (.ref e_)] ∧ Z.Warmed39 U.vm ∧ U.heap = h0) (fun _ _ _ _ _ => True) (fun _ U o U' => ∃ v L, o = .returned v ∧ Q6m0 Z a1 e_ ar k mc mr h0 n0 v U'.heap L ∧ FrameEnd U o U' L ({ frames := 3, cells := 1, slots := 4, locals := 89 } : Room).cells ({ frames := 3, cells := 1, slots := 4, locals := 89 } : Room).slots) := by
  refine MetFree.of_bodySF (plainFor_of_name pn_4) hisR ?_
  intro p e s m args below meth c s₁ Bd hml0 hP hK
  obtain ⟨rfl, hZ, hh⟩ := hP
  have hx := Bd.exec
  have hby := Bd.bytes
  have hml : c.maxLocals = 2 := hml0
  have hown : s.vm.findClass "com/example/tidegraph/tidegraph/graph/ElementList" = some m.cls := findClass_of_methodNamed Bd.named
  have hnm := (name_of_methodNamed Bd.named Bd.method).1
  have X0 : Stand p l e ({ frames := 3, cells := 1, slots := 4, locals := 89 } : Room) s m #[(.ref a1), (.ref e_)] below meth c s₁ [] 0 0 := Stand.of_body Bd
  have e0 : s₁.heap = h0 := by rw [← hh, Bd.state]; rfl
  have N0 := Fr.nil n0
  show Go p e below s (Q6m0 Z a1 e_ ar k mc mr h0 n0) ({ frames := 3, cells := 1, slots := 4, locals := 89 } : Room).cells ({ frames := 3, cells := 1, slots := 4, locals := 89 } : Room).slots _
  refine Go.via (S' := s₁.setTop (mkF m 0 #[.val (.ref a1), .val (.ref e_)] [])) (fun t k => castTop (ef_6m0 m a1 e_) k) ?_
  refine Go.via (S' := s₁.setTop (mkF m 1 #[.val (.ref a1), .val (.ref e_)] [(.ref a1)])) (fun _ k => XS.aloadN X0.here hx rfl (hb hby d6_0) rfl rfl k) ?_
  obtain ⟨T1, X1, e1, st1⟩ := getF X0 hx hZ hown (host := "") (Or.inl (hw _ (List.mem_of_getElem? (i := 39) rfl))) Via.refl e0 Fs (g := (mkF m 1 #[.val (.ref a1), .val (.ref e_)] [(.ref a1)])) rfl rfl (hb hby d6_1)
  refine Go.via (S' := T1.setTop (mkF m 4 #[.val (.ref a1), .val (.ref e_)] [(.int (0 : Int32))])) (fun _ k => st1 _ k) ?_
  refine Go.via (S' := T1.setTop (mkF m 5 #[.val (.ref a1), .val (.ref e_)] [(.ref a1), (.int (0 : Int32))])) (fun _ k => XS.aloadN X1.here hx rfl (hb hby d6_4) rfl rfl k) ?_
  obtain ⟨T2, X2, e2, st2⟩ := getF X1 hx hZ hown (host := "") (Or.inl (hw _ (List.mem_of_getElem? (i := 25) rfl))) Via.refl e1 Fe (g := (mkF m 5 #[.val (.ref a1), .val (.ref e_)] [(.ref a1), (.int (0 : Int32))])) rfl rfl (hb hby d6_5)
  refine Go.via (S' := T2.setTop (mkF m 8 #[.val (.ref a1), .val (.ref e_)] [(.ref ar), (.int (0 : Int32))])) (fun _ k => st2 _ k) ?_
  obtain ⟨c3, Ar3, -, S3, M3, -, -⟩ := id V1
  refine Go.via (S' := T2.setTop (mkF m 9 #[.val (.ref a1), .val (.ref e_)] [(.int c3.slots.size.toInt32), (.int (0 : Int32))])) (fun _ k => X2.arraylength hx (by rw [e2]; exact Ar3.1) (State.isArrayOf_alike hZ.alike Ar3.2.1) (g := (mkF m 8 #[.val (.ref a1), .val (.ref e_)] [(.ref ar), (.int (0 : Int32))])) rfl rfl (hb hby d6_8) _ k) ?_
  rw [len_of S3 M3]
  refine Go.via (S' := T2.setTop (mkF m 12 #[.val (.ref a1), .val (.ref e_)] [])) (fun _ k => XS.icmpNo X2.here hx rfl (hb hby d6_9) rfl (teq (by decide)).2 k) ?_
  refine Go.via (S' := T2.setTop (mkF m 13 #[.val (.ref a1), .val (.ref e_)] [(.ref a1)])) (fun _ k => XS.aloadN X2.here hx rfl (hb hby d6_12) rfl rfl k) ?_
  refine Go.via (S' := T2.setTop (mkF m 14 #[.val (.ref a1), .val (.ref e_)] [(.ref a1), (.ref a1)])) (fun _ k => XS.aloadN X2.here hx rfl (hb hby d6_13) rfl rfl k) ?_
  obtain ⟨T4, X4, e4, st4⟩ := getF X2 hx hZ hown (host := "") (Or.inl (hw _ (List.mem_of_getElem? (i := 25) rfl))) Via.refl e2 Fe (g := (mkF m 14 #[.val (.ref a1), .val (.ref e_)] [(.ref a1), (.ref a1)])) rfl rfl (hb hby d6_14)
  refine Go.via (S' := T4.setTop (mkF m 17 #[.val (.ref a1), .val (.ref e_)] [(.ref ar), (.ref a1)])) (fun _ k => st4 _ k) ?_
  refine Go.via (S' := T4.setTop (mkF m 18 #[.val (.ref a1), .val (.ref e_)] [(.int (4 : Int32)), (.ref ar), (.ref a1)])) (fun _ k => XS.iconst X4.here hx rfl (hb hby d6_17) k) ?_
  refine Go.via (S' := T4.setTop (mkF m 19 #[.val (.ref a1), .val (.ref e_)] [(.int (2 : Int32)), (.int (4 : Int32)), (.ref ar), (.ref a1)])) (fun _ k => XS.iconst X4.here hx rfl (hb hby d6_18) k) ?_
  refine Go.via (S' := T4.setTop (mkF m 20 #[.val (.ref a1), .val (.ref e_)] [(.ref a1), (.int (2 : Int32)), (.int (4 : Int32)), (.ref ar), (.ref a1)])) (fun _ k => XS.aloadN X4.here hx rfl (hb hby d6_19) rfl rfl k) ?_
  obtain ⟨T5, X5, e5, st5⟩ := getF X4 hx hZ hown (host := "") (Or.inl (hw _ (List.mem_of_getElem? (i := 39) rfl))) Via.refl e4 Fs (g := (mkF m 20 #[.val (.ref a1), .val (.ref e_)] [(.ref a1), (.int (2 : Int32)), (.int (4 : Int32)), (.ref ar), (.ref a1)])) rfl rfl (hb hby d6_20)
  refine Go.via (S' := T5.setTop (mkF m 23 #[.val (.ref a1), .val (.ref e_)] [(.int (0 : Int32)), (.int (2 : Int32)), (.int (4 : Int32)), (.ref ar), (.ref a1)])) (fun _ k => st5 _ k) ?_
  refine Go.via (S' := T5.setTop (mkF m 24 #[.val (.ref a1), .val (.ref e_)] [(.int ((2 : Int32) * (0 : Int32))), (.int (4 : Int32)), (.ref ar), (.ref a1)])) (fun _ k => XS.imul X5.here hx rfl (hb hby d6_23) rfl k) ?_
  obtain ⟨_, _, ⟨T6, L6, k6, n6⟩, -, X6, ⟨Lc6, hQ6, l6, y6, z6⟩, st6⟩ := Jvm.LawKit.callS X5 hx (y := (⟨"java/lang/Math", "max", "(II)I"⟩ : MethodName)) hown (mvT hZ (hw _ (List.mem_of_getElem? (i := 41) rfl))) (mvT hZ (hw _ (List.mem_of_getElem? (i := 42) rfl))) (mvT hZ (hw _ (List.mem_of_getElem? (i := 43) rfl))) (mvT hZ (hw _ (List.mem_of_getElem? (i := 44) rfl))) (by decide) (backOf (W := 2) (rm7 l Z a0 hw [] (4 : Int32) ((2 : Int32) * (0 : Int32)) h0 n0 Z0) hZ (hw _ (List.mem_of_getElem? (i := 44) rfl)) (hw _ (List.mem_of_getElem? (i := 43) rfl)) (by decide) (by decide)) (g := (mkF m 24 #[.val (.ref a1), .val (.ref e_)] [(.int ((2 : Int32) * (0 : Int32))), (.int (4 : Int32)), (.ref ar), (.ref a1)])) rfl (by rw [hml]; rfl) (argsL := [(.int (4 : Int32)), (.int ((2 : Int32) * (0 : Int32)))]) (rest := [(.ref ar), (.ref a1)]) (lenOf pd_2 rfl) rfl (by show 2 * 0 + _ ≤ _; exact Nat.le_of_eq rfl) (hb hby d6_24) (fun _ _ => ⟨rfl, e5, (by decide : 0 + 0 ≤ _), (by decide : 0 + 0 ≤ _)⟩)
  dsimp only [Pt.U, Pt.locs, Pt.cells, Pt.slots] at X6 l6 y6 z6 st6 hQ6
  subst l6 y6 z6
  obtain ⟨r6, rfl, N6q, e6, hr6⟩ := hQ6
  obtain rfl : r6 = (4 : Int32) := Int32.toInt_inj.mp (hr6.trans (by decide))
  have N7 := Fr.app N0 N6q
  refine Go.via (S' := T6.setTop (mkF m 27 #[.val (.ref a1), .val (.ref e_)] [(.int (4 : Int32)), (.ref ar), (.ref a1)])) (fun _ k => st6 _ k) ?_
  obtain ⟨_, _, ⟨T8, L8, k8, n8⟩, -, X8, ⟨Lc8, hQ8, l8, y8, z8⟩, st8⟩ := Jvm.LawKit.callS X6 hx (y := (⟨"java/util/Arrays", "copyOf", "([Ljava/lang/Object;I)[Ljava/lang/Object;"⟩ : MethodName)) hown (mvT hZ (hw _ (List.mem_of_getElem? (i := 45) rfl))) (mvT hZ (hw _ (List.mem_of_getElem? (i := 46) rfl))) (mvT hZ (hw _ (List.mem_of_getElem? (i := 47) rfl))) (mvT hZ (hw _ (List.mem_of_getElem? (i := 48) rfl))) (by decide) (backOf (W := 1) (rm8c0 l Z a0 hw [] ar (4 : Int32) mr k  h0 n0 Z0 rfl V1 Ea  Mr) hZ (hw _ (List.mem_of_getElem? (i := 48) rfl)) (hw _ (List.mem_of_getElem? (i := 47) rfl)) (by decide) (by decide)) (g := (mkF m 27 #[.val (.ref a1), .val (.ref e_)] [(.int (4 : Int32)), (.ref ar), (.ref a1)])) rfl (by rw [hml]; rfl) (argsL := [(.ref ar), (.int (4 : Int32))]) (rest := [(.ref a1)]) (lenOf pd_4 rfl) rfl (by show 2 * 0 + _ ≤ _; exact Nat.le_of_eq rfl) (hb hby d6_27) (fun _ _ => ⟨rfl, e6, (by decide : 0 + 1 ≤ _), (by decide : 0 + 4 ≤ _)⟩)
  dsimp only [Pt.U, Pt.locs, Pt.cells, Pt.slots] at X8 l8 y8 z8 st8 hQ8
  subst l8 y8 z8
  obtain ⟨r8, kk8, rfl, N8q, K8, u18, u28, Er8, Or8, Vr8⟩ := hQ8
  have N9 := Fr.app N7 N8q
  have f10 := E1.keep K8
  have f11 := Fm.keep K8 nin0
  have f12 := Fe.keep K8 nin0
  have f13 := Fs.keep K8 nin0
  have f14 := V1.keep K8 nin0
  have f15 := Ea.keep K8
  have f16 := Ee.keep K8
  have z17 := Nat.le_trans Z0 K8.1
  have K18 := (Keep.refl h0 [a1]).trans K8 all0
  refine Go.via (S' := T8.setTop (mkF m 30 #[.val (.ref a1), .val (.ref e_)] [(.ref r8), (.ref a1)])) (fun _ k => st8 _ k) ?_
  have ne19 : a1 ≠ r8 := Nat.ne_of_lt (Nat.lt_of_lt_of_le E1.lt u28)
  have ne20 : ar ≠ r8 := Nat.ne_of_lt (Nat.lt_of_lt_of_le V1.lt u28)
  have ne21 : e_ ≠ r8 := Nat.ne_of_lt (Nat.lt_of_lt_of_le Ee.lt u28)
  have g22 : h0.size ≤ r8 := Nat.le_trans (Keep.refl h0 [a1]).1 u28
  obtain ⟨T23, h23, X23, e23, W23, st23⟩ := putF X8 hx hZ hown (host := "") (Or.inl (hw _ (List.mem_of_getElem? (i := 25) rfl))) Via.refl rfl f12 f10 (Or.inl (hw _ (List.mem_of_getElem? (i := 26) rfl))) (hw _ (List.mem_of_getElem? (i := 2) rfl)) (ty := (.array (.object "java/lang/Object"))) (by decide) rfl rfl (g := (mkF m 30 #[.val (.ref a1), .val (.ref e_)] [(.ref r8), (.ref a1)])) rfl rfl (hb hby d6_30)
  have N24 := Fr.snoc X23 N9 g1
  have f25 := f10.wr W23
  have f26 := f11.other W23 (Or.inr (slot_ne (Or.inl (hw _ (List.mem_of_getElem? (i := 22) rfl))) (Or.inl (hw _ (List.mem_of_getElem? (i := 26) rfl))) (by decide) (t := .int) (t' := (.array (.object "java/lang/Object"))) (by decide) (by decide)))
  have f27 := f12.same W23
  have f28 := f13.other W23 (Or.inr (slot_ne (Or.inl (hw _ (List.mem_of_getElem? (i := 40) rfl))) (Or.inl (hw _ (List.mem_of_getElem? (i := 26) rfl))) (by decide) (t := .int) (t' := (.array (.object "java/lang/Object"))) (by decide) (by decide)))
  have f29 := f14.other W23 nea
  have f30 := f15.wr W23
  have f31 := f16.wr W23
  have f32 := Vr8.other W23 (Ne.symm ne19)
  have f33 := Er8.wr W23
  have z34 := Nat.le_trans z17 (Keep.of_wr W23).1
  have K35 := K18.wr W23 (Or.inl (List.mem_of_getElem? (i := 0) rfl))
  refine Go.via (S' := T23.setTop (mkF m 33 #[.val (.ref a1), .val (.ref e_)] [])) (fun _ k => st23 _ k) ?_
  refine Go.via (S' := T23.setTop (mkF m 34 #[.val (.ref a1), .val (.ref e_)] [(.ref a1)])) (fun _ k => XS.aloadN X23.here hx rfl (hb hby d6_33) rfl rfl k) ?_
  obtain ⟨T36, X36, e36, st36⟩ := getF X23 hx hZ hown (host := "") (Or.inl (hw _ (List.mem_of_getElem? (i := 25) rfl))) Via.refl e23 f27 (g := (mkF m 34 #[.val (.ref a1), .val (.ref e_)] [(.ref a1)])) rfl rfl (hb hby d6_34)
  refine Go.via (S' := T36.setTop (mkF m 37 #[.val (.ref a1), .val (.ref e_)] [(.ref r8)])) (fun _ k => st36 _ k) ?_
  refine Go.via (S' := T36.setTop (mkF m 38 #[.val (.ref a1), .val (.ref e_)] [(.ref a1), (.ref r8)])) (fun _ k => XS.aloadN X36.here hx rfl (hb hby d6_37) rfl rfl k) ?_
  refine Go.via (S' := T36.setTop (mkF m 39 #[.val (.ref a1), .val (.ref e_)] [(.ref a1), (.ref a1), (.ref r8)])) (fun _ k => XS.dup X36.here hx rfl (hb hby d6_38) rfl rfl k) ?_
  obtain ⟨T37, X37, e37, st37⟩ := getF X36 hx hZ hown (host := "") (Or.inl (hw _ (List.mem_of_getElem? (i := 39) rfl))) Via.refl e36 f28 (g := (mkF m 39 #[.val (.ref a1), .val (.ref e_)] [(.ref a1), (.ref a1), (.ref r8)])) rfl rfl (hb hby d6_39)
  refine Go.via (S' := T37.setTop (mkF m 42 #[.val (.ref a1), .val (.ref e_)] [(.int (0 : Int32)), (.ref a1), (.ref r8)])) (fun _ k => st37 _ k) ?_
  refine Go.via (S' := T37.setTop (mkF m 43 #[.val (.ref a1), .val (.ref e_)] [(.int (0 : Int32)), (.ref a1), (.int (0 : Int32)), (.ref r8)])) (fun _ k => XS.dupX1 X37.here hx rfl (hb hby d6_42) rfl rfl rfl k) ?_
  refine Go.via (S' := T37.setTop (mkF m 44 #[.val (.ref a1), .val (.ref e_)] [(.int (1 : Int32)), (.int (0 : Int32)), (.ref a1), (.int (0 : Int32)), (.ref r8)])) (fun _ k => XS.iconst X37.here hx rfl (hb hby d6_43) k) ?_
  refine Go.via (S' := T37.setTop (mkF m 45 #[.val (.ref a1), .val (.ref e_)] [(.int ((0 : Int32) + (1 : Int32))), (.ref a1), (.int (0 : Int32)), (.ref r8)])) (fun _ k => XS.iadd X37.here hx rfl (hb hby d6_44) rfl k) ?_
  obtain ⟨T38, h38, X38, e38, W38, st38⟩ := putF X37 hx hZ hown (host := "") (Or.inl (hw _ (List.mem_of_getElem? (i := 39) rfl))) Via.refl e37 f28 f25 (Or.inl (hw _ (List.mem_of_getElem? (i := 40) rfl))) (hw _ (List.mem_of_getElem? (i := 2) rfl)) (ty := .int) (by decide) rfl rfl (g := (mkF m 45 #[.val (.ref a1), .val (.ref e_)] [(.int ((0 : Int32) + (1 : Int32))), (.ref a1), (.int (0 : Int32)), (.ref r8)])) rfl rfl (hb hby d6_45)
  have N39 := Fr.snoc X38 N24 g1
  have f40 := f25.wr W38
  have f41 := f26.other W38 (Or.inr (slot_ne (Or.inl (hw _ (List.mem_of_getElem? (i := 22) rfl))) (Or.inl (hw _ (List.mem_of_getElem? (i := 40) rfl))) (by decide) (t := .int) (t' := .int) (by decide) (by decide)))
  have f42 := f27.other W38 (Or.inr (slot_ne (Or.inl (hw _ (List.mem_of_getElem? (i := 26) rfl))) (Or.inl (hw _ (List.mem_of_getElem? (i := 40) rfl))) (by decide) (t := (.array (.object "java/lang/Object"))) (t' := .int) (by decide) (by decide)))
  have f43 := f28.same W38
  have f44 := f29.other W38 nea
  have f45 := f30.wr W38
  have f46 := f31.wr W38
  have f47 := f32.other W38 (Ne.symm ne19)
  have f48 := f33.wr W38
  have z49 := Nat.le_trans z34 (Keep.of_wr W38).1
  have K50 := K35.wr W38 (Or.inl (List.mem_of_getElem? (i := 0) rfl))
  refine Go.via (S' := T38.setTop (mkF m 48 #[.val (.ref a1), .val (.ref e_)] [(.int (0 : Int32)), (.ref r8)])) (fun _ k => st38 _ k) ?_
  have fs51 : Fld Z h38 a1 "com/example/tidegraph/tidegraph/graph/ElementList" "size" "I" (.int (1 : Int32)) := f43
  refine Go.via (S' := T38.setTop (mkF m 49 #[.val (.ref a1), .val (.ref e_)] [(.ref e_), (.int (0 : Int32)), (.ref r8)])) (fun _ k => XS.aloadN X38.here hx rfl (hb hby d6_48) rfl rfl k) ?_
  obtain ⟨c52, Ar52, q52, S52, M52, H52, G52⟩ := id f47
  obtain ⟨T52, h52, X52, e52, W52, st52⟩ := stR X38 hx hZ e38 Ar52 (j := (0 : Int32)) (inb_of S52 ⟨by decide, by decide⟩) rfl (Sto.ofV Ar52 q52 Or8 (Ins.of_exa f46 (hw _ (List.mem_of_getElem? (i := 68) rfl)))) (g := (mkF m 49 #[.val (.ref a1), .val (.ref e_)] [(.ref e_), (.int (0 : Int32)), (.ref r8)])) rfl rfl (hb hby d6_49)
  have V53 : Arv Z h52 r8 kk8 (.object "java/lang/Object") (4 : Int32) [(.ref e_), .null, .null, .null] .null := Arv.set Ar52 q52 S52 M52 H52 G52 rfl W52 0 rfl (Nat.le_of_ble_eq_true rfl)
  have N54 := Fr.snoc X52 N39 u18
  have f55 := f40.wr W52
  have f56 := f41.other W52 (Or.inl ne19)
  have f57 := f42.other W52 (Or.inl ne19)
  have f58 := fs51.other W52 (Or.inl ne19)
  have f59 := f44.other W52 ne20
  have f60 := f45.wr W52
  have f61 := f46.wr W52
  have f62 := f48.wr W52
  have z63 := Nat.le_trans z49 (Keep.of_wr W52).1
  have K64 := K50.wr W52 (Or.inr g22)
  refine Go.via (S' := T52.setTop (mkF m 50 #[.val (.ref a1), .val (.ref e_)] [])) (fun _ k => st52 _ k) ?_
  refine Go.via (S' := T52.setTop (mkF m 51 #[.val (.ref a1), .val (.ref e_)] [(.ref a1)])) (fun _ k => XS.aloadN X52.here hx rfl (hb hby d6_50) rfl rfl k) ?_
  refine Go.via (S' := T52.setTop (mkF m 52 #[.val (.ref a1), .val (.ref e_)] [(.ref a1), (.ref a1)])) (fun _ k => XS.dup X52.here hx rfl (hb hby d6_51) rfl rfl k) ?_
  obtain ⟨T65, X65, e65, st65⟩ := getF X52 hx hZ hown (host := "") (Or.inl (hw _ (List.mem_of_getElem? (i := 69) rfl))) (Via.of (hw _ (List.mem_of_getElem? (i := 70) rfl))) e52 f56 (g := (mkF m 52 #[.val (.ref a1), .val (.ref e_)] [(.ref a1), (.ref a1)])) rfl rfl (hb hby d6_52)
  refine Go.via (S' := T65.setTop (mkF m 55 #[.val (.ref a1), .val (.ref e_)] [(.int mc), (.ref a1)])) (fun _ k => st65 _ k) ?_
  refine Go.via (S' := T65.setTop (mkF m 56 #[.val (.ref a1), .val (.ref e_)] [(.int (1 : Int32)), (.int mc), (.ref a1)])) (fun _ k => XS.iconst X65.here hx rfl (hb hby d6_55) k) ?_
  refine Go.via (S' := T65.setTop (mkF m 57 #[.val (.ref a1), .val (.ref e_)] [(.int (mc + (1 : Int32))), (.ref a1)])) (fun _ k => XS.iadd X65.here hx rfl (hb hby d6_56) rfl k) ?_
  obtain ⟨T66, h66, X66, e66, W66, st66⟩ := putF X65 hx hZ hown (host := "") (Or.inl (hw _ (List.mem_of_getElem? (i := 69) rfl))) (Via.of (hw _ (List.mem_of_getElem? (i := 70) rfl))) e65 f56 f55 (Or.inl (hw _ (List.mem_of_getElem? (i := 22) rfl))) (hw _ (List.mem_of_getElem? (i := 2) rfl)) (ty := .int) (by decide) rfl rfl (g := (mkF m 57 #[.val (.ref a1), .val (.ref e_)] [(.int (mc + (1 : Int32))), (.ref a1)])) rfl rfl (hb hby d6_57)
  have N67 := Fr.snoc X66 N54 g1
  have f68 := f55.wr W66
  have f69 := f56.same W66
  have f70 := f57.other W66 (Or.inr (slot_ne (Or.inl (hw _ (List.mem_of_getElem? (i := 26) rfl))) (Or.inl (hw _ (List.mem_of_getElem? (i := 22) rfl))) (by decide) (t := (.array (.object "java/lang/Object"))) (t' := .int) (by decide) (by decide)))
  have f71 := f58.other W66 (Or.inr (slot_ne (Or.inl (hw _ (List.mem_of_getElem? (i := 40) rfl))) (Or.inl (hw _ (List.mem_of_getElem? (i := 22) rfl))) (by decide) (t := .int) (t' := .int) (by decide) (by decide)))
  have f72 := f59.other W66 nea
  have f73 := f60.wr W66
  have f74 := f61.wr W66
  have f75 := f62.wr W66
  have f76 := V53.other W66 (Ne.symm ne19)
  have z77 := Nat.le_trans z63 (Keep.of_wr W66).1
  have K78 := K64.wr W66 (Or.inl (List.mem_of_getElem? (i := 0) rfl))
  refine Go.via (S' := T66.setTop (mkF m 60 #[.val (.ref a1), .val (.ref e_)] [])) (fun _ k => st66 _ k) ?_
  exact Go.retV X66 hx (BodyLoose.notSynchronized Bd) Bd.returns (hb hby d6_60) (by rw [e66]; exact ⟨rfl, N67, K78, _, _, u18, g22, f75, Or8, f69, f70, f71, f76⟩) (by decide) (by decide)
theorem ef_6m1 (m : MethodId) (x0 : Addr) (x1 : Addr) : entryFrame m #[(.ref x0), (.ref x1)] 2 = mkF m 0 #[.val (.ref x0), .val (.ref x1)] [] := by first | (simp [entryFrame, mkF, argsToLocals, Value.category]; done) | rfl
def Q6m1 (Z : State) (a1 : Addr) (e_ : Addr) (ar : Addr) (k : ClassId) (mc : Int32) (mr : Addr) (r0 : Addr) (h0 : Heap) (n0 : Nat) (v : Option Value) (h : Heap) (L : List Loc) : Prop := v = none ∧ Fr n0 L ∧ Keep h0 h [a1, ar] ∧ Fld Z h a1 "java/util/AbstractList" "modCount" "I" (.int (mc + 1)) ∧ Fld Z h a1 "com/example/tidegraph/tidegraph/graph/ElementList" "elements" "[Ljava/lang/Object;" (.ref ar) ∧ Fld Z h a1 "com/example/tidegraph/tidegraph/graph/ElementList" "size" "I" (.int (2 : Int32)) ∧ Arv Z h ar k (.object "java/lang/Object") (4 : Int32) [(.ref r0), (.ref e_), .null, .null] .null
set_option maxRecDepth 65536 in
set_option maxHeartbeats 40000000 in
theorem rm6m1 (l : Launch) (Z : State) (a0 : Array Value) (hw : ∀ d ∈ tables_1, d.before a0 Z = true) (ws : List Jvm.Cond) (a1 : Addr) (e_ : Addr) (ar : Addr) (k : ClassId) (mc : Int32) (mr : Addr) (r0 : Addr) (h0 : Heap) (n0 : Nat) (Z0 : n0 ≤ h0.size) (E1 : Exa Z h0 a1 "com/example/tidegraph/tidegraph/graph/ElementList") (Fm : Fld Z h0 a1 "java/util/AbstractList" "modCount" "I" (.int mc)) (Fe : Fld Z h0 a1 "com/example/tidegraph/tidegraph/graph/ElementList" "elements" "[Ljava/lang/Object;" (.ref ar)) (Fs : Fld Z h0 a1 "com/example/tidegraph/tidegraph/graph/ElementList" "size" "I" (.int (1 : Int32))) (g1 : n0 ≤ a1) (V1 : Arv Z h0 ar k (.object "java/lang/Object") (4 : Int32) [(.ref r0), .null, .null, .null] .null) (Ea : Exa Z h0 ar "[Ljava/lang/Object;") (nea : ar ≠ a1) (Ee : Exa Z h0 e_ "java/lang/Integer") (ne1 : e_ ≠ a1) (ne2 : e_ ≠ ar) (Ov : Ovr Z k "java/lang/Object") (g2 : n0 ≤ ar) :
    MetFree l (⟨"com/example/tidegraph/tidegraph/graph/ElementList", "append", "(Ljava/lang/Object;)V"⟩ : MethodName) (head1 (Jvm.Cond.code (⟨"com/example/tidegraph/tidegraph/graph/ElementList", "append", "(Ljava/lang/Object;)V"⟩ : MethodName) prog_8_method_2_code 2 none :: ws) ({ frames := 0, cells := 0, slots := 0, locals := 0 } : Room)) (fun a U => a = #[(.ref a1), (.ref e_)] ∧ Z.Warmed39 U.vm ∧ U.heap = h0) (fun _ _ _ _ _ => True) (fun _ U o U' => ∃ v L, o = .returned v ∧ Q6m1 Z a1 e_ ar k mc mr r0 h0 n0 v U'.heap L ∧ FrameEnd U o U' L ({ frames := 0, cells := 0, slots := 0, locals := 0 } : Room).cells ({ frames := 0, cells := 0, slots := 0, locals := 0 } : Room).slots) := by
  refine MetFree.of_bodySF (plainFor_of_name pn_4) hisR ?_
  intro p e s m args below meth c s₁ Bd hml0 hP hK
  obtain ⟨rfl, hZ, hh⟩ := hP
  have hx := Bd.exec
  have hby := Bd.bytes
  have hml : c.maxLocals = 2 := hml0
  have hown : s.vm.findClass "com/example/tidegraph/tidegraph/graph/ElementList" = some m.cls := findClass_of_methodNamed Bd.named
  have hnm := (name_of_methodNamed Bd.named Bd.method).1
  have X0 : Stand p l e ({ frames := 0, cells := 0, slots := 0, locals := 0 } : Room) s m #[(.ref a1), (.ref e_)] below meth c s₁ [] 0 0 := Stand.of_body Bd
  have e0 : s₁.heap = h0 := by rw [← hh, Bd.state]; rfl
  have N0 := Fr.nil n0
  show Go p e below s (Q6m1 Z a1 e_ ar k mc mr r0 h0 n0) ({ frames := 0, cells := 0, slots := 0, locals := 0 } : Room).cells ({ frames := 0, cells := 0, slots := 0, locals := 0 } : Room).slots _
  refine Go.via (S' := s₁.setTop (mkF m 0 #[.val (.ref a1), .val (.ref e_)] [])) (fun t k => castTop (ef_6m1 m a1 e_) k) ?_
  refine Go.via (S' := s₁.setTop (mkF m 1 #[.val (.ref a1), .val (.ref e_)] [(.ref a1)])) (fun _ k => XS.aloadN X0.here hx rfl (hb hby d6_0) rfl rfl k) ?_
  obtain ⟨T1, X1, e1, st1⟩ := getF X0 hx hZ hown (host := "") (Or.inl (hw _ (List.mem_of_getElem? (i := 39) rfl))) Via.refl e0 Fs (g := (mkF m 1 #[.val (.ref a1), .val (.ref e_)] [(.ref a1)])) rfl rfl (hb hby d6_1)
  refine Go.via (S' := T1.setTop (mkF m 4 #[.val (.ref a1), .val (.ref e_)] [(.int (1 : Int32))])) (fun _ k => st1 _ k) ?_
  refine Go.via (S' := T1.setTop (mkF m 5 #[.val (.ref a1), .val (.ref e_)] [(.ref a1), (.int (1 : Int32))])) (fun _ k => XS.aloadN X1.here hx rfl (hb hby d6_4) rfl rfl k) ?_
  obtain ⟨T2, X2, e2, st2⟩ := getF X1 hx hZ hown (host := "") (Or.inl (hw _ (List.mem_of_getElem? (i := 25) rfl))) Via.refl e1 Fe (g := (mkF m 5 #[.val (.ref a1), .val (.ref e_)] [(.ref a1), (.int (1 : Int32))])) rfl rfl (hb hby d6_5)
  refine Go.via (S' := T2.setTop (mkF m 8 #[.val (.ref a1), .val (.ref e_)] [(.ref ar), (.int (1 : Int32))])) (fun _ k => st2 _ k) ?_
  obtain ⟨c3, Ar3, -, S3, M3, -, -⟩ := id V1
  refine Go.via (S' := T2.setTop (mkF m 9 #[.val (.ref a1), .val (.ref e_)] [(.int c3.slots.size.toInt32), (.int (1 : Int32))])) (fun _ k => X2.arraylength hx (by rw [e2]; exact Ar3.1) (State.isArrayOf_alike hZ.alike Ar3.2.1) (g := (mkF m 8 #[.val (.ref a1), .val (.ref e_)] [(.ref ar), (.int (1 : Int32))])) rfl rfl (hb hby d6_8) _ k) ?_
  rw [len_of S3 M3]
  refine Go.via (S' := T2.setTop (mkF m 33 #[.val (.ref a1), .val (.ref e_)] [])) (fun _ k => XS.icmpYes X2.here hx rfl (pc0 := 9) (pc' := 33) rfl (hb hby d6_9) rfl (feq (by decide)).2 (by decide) (by decide) k) ?_
  refine Go.via (S' := T2.setTop (mkF m 34 #[.val (.ref a1), .val (.ref e_)] [(.ref a1)])) (fun _ k => XS.aloadN X2.here hx rfl (hb hby d6_33) rfl rfl k) ?_
  obtain ⟨T4, X4, e4, st4⟩ := getF X2 hx hZ hown (host := "") (Or.inl (hw _ (List.mem_of_getElem? (i := 25) rfl))) Via.refl e2 Fe (g := (mkF m 34 #[.val (.ref a1), .val (.ref e_)] [(.ref a1)])) rfl rfl (hb hby d6_34)
  refine Go.via (S' := T4.setTop (mkF m 37 #[.val (.ref a1), .val (.ref e_)] [(.ref ar)])) (fun _ k => st4 _ k) ?_
  refine Go.via (S' := T4.setTop (mkF m 38 #[.val (.ref a1), .val (.ref e_)] [(.ref a1), (.ref ar)])) (fun _ k => XS.aloadN X4.here hx rfl (hb hby d6_37) rfl rfl k) ?_
  refine Go.via (S' := T4.setTop (mkF m 39 #[.val (.ref a1), .val (.ref e_)] [(.ref a1), (.ref a1), (.ref ar)])) (fun _ k => XS.dup X4.here hx rfl (hb hby d6_38) rfl rfl k) ?_
  obtain ⟨T5, X5, e5, st5⟩ := getF X4 hx hZ hown (host := "") (Or.inl (hw _ (List.mem_of_getElem? (i := 39) rfl))) Via.refl e4 Fs (g := (mkF m 39 #[.val (.ref a1), .val (.ref e_)] [(.ref a1), (.ref a1), (.ref ar)])) rfl rfl (hb hby d6_39)
  refine Go.via (S' := T5.setTop (mkF m 42 #[.val (.ref a1), .val (.ref e_)] [(.int (1 : Int32)), (.ref a1), (.ref ar)])) (fun _ k => st5 _ k) ?_
  refine Go.via (S' := T5.setTop (mkF m 43 #[.val (.ref a1), .val (.ref e_)] [(.int (1 : Int32)), (.ref a1), (.int (1 : Int32)), (.ref ar)])) (fun _ k => XS.dupX1 X5.here hx rfl (hb hby d6_42) rfl rfl rfl k) ?_
  refine Go.via (S' := T5.setTop (mkF m 44 #[.val (.ref a1), .val (.ref e_)] [(.int (1 : Int32)), (.int (1 : Int32)), (.ref a1), (.int (1 : Int32)), (.ref ar)])) (fun _ k => XS.iconst X5.here hx rfl (hb hby d6_43) k) ?_
  refine Go.via (S' := T5.setTop (mkF m 45 #[.val (.ref a1), .val (.ref e_)] [(.int ((1 : Int32) + (1 : Int32))), (.ref a1), (.int (1 : Int32)), (.ref ar)])) (fun _ k => XS.iadd X5.here hx rfl (hb hby d6_44) rfl k) ?_
  obtain ⟨T6, h6, X6, e6, W6, st6⟩ := putF X5 hx hZ hown (host := "") (Or.inl (hw _ (List.mem_of_getElem? (i := 39) rfl))) Via.refl e5 Fs E1 (Or.inl (hw _ (List.mem_of_getElem? (i := 40) rfl))) (hw _ (List.mem_of_getElem? (i := 2) rfl)) (ty := .int) (by decide) rfl rfl (g := (mkF m 45 #[.val (.ref a1), .val (.ref e_)] [(.int ((1 : Int32) + (1 : Int32))), (.ref a1), (.int (1 : Int32)), (.ref ar)])) rfl rfl (hb hby d6_45)
  have N7 := Fr.snoc X6 N0 g1
  have f8 := E1.wr W6
  have f9 := Fm.other W6 (Or.inr (slot_ne (Or.inl (hw _ (List.mem_of_getElem? (i := 22) rfl))) (Or.inl (hw _ (List.mem_of_getElem? (i := 40) rfl))) (by decide) (t := .int) (t' := .int) (by decide) (by decide)))
  have f10 := Fe.other W6 (Or.inr (slot_ne (Or.inl (hw _ (List.mem_of_getElem? (i := 26) rfl))) (Or.inl (hw _ (List.mem_of_getElem? (i := 40) rfl))) (by decide) (t := (.array (.object "java/lang/Object"))) (t' := .int) (by decide) (by decide)))
  have f11 := Fs.same W6
  have f12 := V1.other W6 nea
  have f13 := Ea.wr W6
  have f14 := Ee.wr W6
  have z15 := Nat.le_trans Z0 (Keep.of_wr W6).1
  have K16 := (Keep.refl h0 [a1, ar]).wr W6 (Or.inl (List.mem_of_getElem? (i := 0) rfl))
  refine Go.via (S' := T6.setTop (mkF m 48 #[.val (.ref a1), .val (.ref e_)] [(.int (1 : Int32)), (.ref ar)])) (fun _ k => st6 _ k) ?_
  have fs17 : Fld Z h6 a1 "com/example/tidegraph/tidegraph/graph/ElementList" "size" "I" (.int (2 : Int32)) := f11
  refine Go.via (S' := T6.setTop (mkF m 49 #[.val (.ref a1), .val (.ref e_)] [(.ref e_), (.int (1 : Int32)), (.ref ar)])) (fun _ k => XS.aloadN X6.here hx rfl (hb hby d6_48) rfl rfl k) ?_
  obtain ⟨c18, Ar18, q18, S18, M18, H18, G18⟩ := id f12
  obtain ⟨T18, h18, X18, e18, W18, st18⟩ := stR X6 hx hZ e6 Ar18 (j := (1 : Int32)) (inb_of S18 ⟨by decide, by decide⟩) rfl (Sto.ofV Ar18 q18 Ov (Ins.of_exa f14 (hw _ (List.mem_of_getElem? (i := 68) rfl)))) (g := (mkF m 49 #[.val (.ref a1), .val (.ref e_)] [(.ref e_), (.int (1 : Int32)), (.ref ar)])) rfl rfl (hb hby d6_49)
  have V19 : Arv Z h18 ar k (.object "java/lang/Object") (4 : Int32) [(.ref r0), (.ref e_), .null, .null] .null := Arv.set Ar18 q18 S18 M18 H18 G18 rfl W18 1 rfl (Nat.le_of_ble_eq_true rfl)
  have N20 := Fr.snoc X18 N7 g2
  have f21 := f8.wr W18
  have f22 := f9.other W18 (Or.inl (Ne.symm nea))
  have f23 := f10.other W18 (Or.inl (Ne.symm nea))
  have f24 := fs17.other W18 (Or.inl (Ne.symm nea))
  have f25 := f13.wr W18
  have f26 := f14.wr W18
  have z27 := Nat.le_trans z15 (Keep.of_wr W18).1
  have K28 := K16.wr W18 (Or.inl (List.mem_of_getElem? (i := 1) rfl))
  refine Go.via (S' := T18.setTop (mkF m 50 #[.val (.ref a1), .val (.ref e_)] [])) (fun _ k => st18 _ k) ?_
  refine Go.via (S' := T18.setTop (mkF m 51 #[.val (.ref a1), .val (.ref e_)] [(.ref a1)])) (fun _ k => XS.aloadN X18.here hx rfl (hb hby d6_50) rfl rfl k) ?_
  refine Go.via (S' := T18.setTop (mkF m 52 #[.val (.ref a1), .val (.ref e_)] [(.ref a1), (.ref a1)])) (fun _ k => XS.dup X18.here hx rfl (hb hby d6_51) rfl rfl k) ?_
  obtain ⟨T29, X29, e29, st29⟩ := getF X18 hx hZ hown (host := "") (Or.inl (hw _ (List.mem_of_getElem? (i := 69) rfl))) (Via.of (hw _ (List.mem_of_getElem? (i := 70) rfl))) e18 f22 (g := (mkF m 52 #[.val (.ref a1), .val (.ref e_)] [(.ref a1), (.ref a1)])) rfl rfl (hb hby d6_52)
  refine Go.via (S' := T29.setTop (mkF m 55 #[.val (.ref a1), .val (.ref e_)] [(.int mc), (.ref a1)])) (fun _ k => st29 _ k) ?_
  refine Go.via (S' := T29.setTop (mkF m 56 #[.val (.ref a1), .val (.ref e_)] [(.int (1 : Int32)), (.int mc), (.ref a1)])) (fun _ k => XS.iconst X29.here hx rfl (hb hby d6_55) k) ?_
  refine Go.via (S' := T29.setTop (mkF m 57 #[.val (.ref a1), .val (.ref e_)] [(.int (mc + (1 : Int32))), (.ref a1)])) (fun _ k => XS.iadd X29.here hx rfl (hb hby d6_56) rfl k) ?_
  obtain ⟨T30, h30, X30, e30, W30, st30⟩ := putF X29 hx hZ hown (host := "") (Or.inl (hw _ (List.mem_of_getElem? (i := 69) rfl))) (Via.of (hw _ (List.mem_of_getElem? (i := 70) rfl))) e29 f22 f21 (Or.inl (hw _ (List.mem_of_getElem? (i := 22) rfl))) (hw _ (List.mem_of_getElem? (i := 2) rfl)) (ty := .int) (by decide) rfl rfl (g := (mkF m 57 #[.val (.ref a1), .val (.ref e_)] [(.int (mc + (1 : Int32))), (.ref a1)])) rfl rfl (hb hby d6_57)
  have N31 := Fr.snoc X30 N20 g1
  have f32 := f21.wr W30
  have f33 := f22.same W30
  have f34 := f23.other W30 (Or.inr (slot_ne (Or.inl (hw _ (List.mem_of_getElem? (i := 26) rfl))) (Or.inl (hw _ (List.mem_of_getElem? (i := 22) rfl))) (by decide) (t := (.array (.object "java/lang/Object"))) (t' := .int) (by decide) (by decide)))
  have f35 := f24.other W30 (Or.inr (slot_ne (Or.inl (hw _ (List.mem_of_getElem? (i := 40) rfl))) (Or.inl (hw _ (List.mem_of_getElem? (i := 22) rfl))) (by decide) (t := .int) (t' := .int) (by decide) (by decide)))
  have f36 := f25.wr W30
  have f37 := f26.wr W30
  have f38 := V19.other W30 nea
  have z39 := Nat.le_trans z27 (Keep.of_wr W30).1
  have K40 := K28.wr W30 (Or.inl (List.mem_of_getElem? (i := 0) rfl))
  refine Go.via (S' := T30.setTop (mkF m 60 #[.val (.ref a1), .val (.ref e_)] [])) (fun _ k => st30 _ k) ?_
  exact Go.retV X30 hx (BodyLoose.notSynchronized Bd) Bd.returns (hb hby d6_60) (by rw [e30]; exact ⟨rfl, N31, K40, f33, f34, f35, f38⟩) (by decide) (by decide)
theorem ef_6m2 (m : MethodId) (x0 : Addr) (x1 : Addr) : entryFrame m #[(.ref x0), (.ref x1)] 2 = mkF m 0 #[.val (.ref x0), .val (.ref x1)] [] := by first | (simp [entryFrame, mkF, argsToLocals, Value.category]; done) | rfl
def Q6m2 (Z : State) (a1 : Addr) (e_ : Addr) (ar : Addr) (k : ClassId) (mc : Int32) (mr : Addr) (r0 : Addr) (r1 : Addr) (h0 : Heap) (n0 : Nat) (v : Option Value) (h : Heap) (L : List Loc) : Prop := v = none ∧ Fr n0 L ∧ Keep h0 h [a1, ar] ∧ Fld Z h a1 "java/util/AbstractList" "modCount" "I" (.int (mc + 1)) ∧ Fld Z h a1 "com/example/tidegraph/tidegraph/graph/ElementList" "elements" "[Ljava/lang/Object;" (.ref ar) ∧ Fld Z h a1 "com/example/tidegraph/tidegraph/graph/ElementList" "size" "I" (.int (3 : Int32)) ∧ Arv Z h ar k (.object "java/lang/Object") (4 : Int32) [(.ref r0), (.ref r1), (.ref e_), .null] .null
set_option maxRecDepth 65536 in
set_option maxHeartbeats 40000000 in
theorem rm6m2 (l : Launch) (Z : State) (a0 : Array Value) (hw : ∀ d ∈ tables_1, d.before a0 Z = true) (ws : List Jvm.Cond) (a1 : Addr) (e_ : Addr) (ar : Addr) (k : ClassId) (mc : Int32) (mr : Addr) (r0 : Addr) (r1 : Addr) (h0 : Heap) (n0 : Nat) (Z0 : n0 ≤ h0.size) (E1 : Exa Z h0 a1 "com/example/tidegraph/tidegraph/graph/ElementList") (Fm : Fld Z h0 a1 "java/util/AbstractList" "modCount" "I" (.int mc)) (Fe : Fld Z h0 a1 "com/example/tidegraph/tidegraph/graph/ElementList" "elements" "[Ljava/lang/Object;" (.ref ar)) (Fs : Fld Z h0 a1 "com/example/tidegraph/tidegraph/graph/ElementList" "size" "I" (.int (2 : Int32))) (g1 : n0 ≤ a1) (V1 : Arv Z h0 ar k (.object "java/lang/Object") (4 : Int32) [(.ref r0), (.ref r1), .null, .null] .null) (Ea : Exa Z h0 ar "[Ljava/lang/Object;") (nea : ar ≠ a1) (Ee : Exa Z h0 e_ "java/lang/Integer") (ne1 : e_ ≠ a1) (ne2 : e_ ≠ ar) (Ov : Ovr Z k "java/lang/Object") (g2 : n0 ≤ ar) :
    MetFree l (⟨"com/example/tidegraph/tidegraph/graph/ElementList", "append", "(Ljava/lang/Object;)V"⟩ : MethodName) (head1 (Jvm.Cond.code (⟨"com/example/tidegraph/tidegraph/graph/ElementList", "append", "(Ljava/lang/Object;)V"⟩ : MethodName) prog_8_method_2_code 2 none :: ws) ({ frames := 0, cells := 0, slots := 0, locals := 0 } : Room)) (fun a U => a = #[(.ref a1), (.ref e_)] ∧ Z.Warmed39 U.vm ∧ U.heap = h0) (fun _ _ _ _ _ => True) (fun _ U o U' => ∃ v L, o = .returned v ∧ Q6m2 Z a1 e_ ar k mc mr r0 r1 h0 n0 v U'.heap L ∧ FrameEnd U o U' L ({ frames := 0, cells := 0, slots := 0, locals := 0 } : Room).cells ({ frames := 0, cells := 0, slots := 0, locals := 0 } : Room).slots) := by
  refine MetFree.of_bodySF (plainFor_of_name pn_4) hisR ?_
  intro p e s m args below meth c s₁ Bd hml0 hP hK
  obtain ⟨rfl, hZ, hh⟩ := hP
  have hx := Bd.exec
  have hby := Bd.bytes
  have hml : c.maxLocals = 2 := hml0
  have hown : s.vm.findClass "com/example/tidegraph/tidegraph/graph/ElementList" = some m.cls := findClass_of_methodNamed Bd.named
  have hnm := (name_of_methodNamed Bd.named Bd.method).1
  have X0 : Stand p l e ({ frames := 0, cells := 0, slots := 0, locals := 0 } : Room) s m #[(.ref a1), (.ref e_)] below meth c s₁ [] 0 0 := Stand.of_body Bd
  have e0 : s₁.heap = h0 := by rw [← hh, Bd.state]; rfl
  have N0 := Fr.nil n0
  show Go p e below s (Q6m2 Z a1 e_ ar k mc mr r0 r1 h0 n0) ({ frames := 0, cells := 0, slots := 0, locals := 0 } : Room).cells ({ frames := 0, cells := 0, slots := 0, locals := 0 } : Room).slots _
  refine Go.via (S' := s₁.setTop (mkF m 0 #[.val (.ref a1), .val (.ref e_)] [])) (fun t k => castTop (ef_6m2 m a1 e_) k) ?_
  refine Go.via (S' := s₁.setTop (mkF m 1 #[.val (.ref a1), .val (.ref e_)] [(.ref a1)])) (fun _ k => XS.aloadN X0.here hx rfl (hb hby d6_0) rfl rfl k) ?_
  obtain ⟨T1, X1, e1, st1⟩ := getF X0 hx hZ hown (host := "") (Or.inl (hw _ (List.mem_of_getElem? (i := 39) rfl))) Via.refl e0 Fs (g := (mkF m 1 #[.val (.ref a1), .val (.ref e_)] [(.ref a1)])) rfl rfl (hb hby d6_1)
  refine Go.via (S' := T1.setTop (mkF m 4 #[.val (.ref a1), .val (.ref e_)] [(.int (2 : Int32))])) (fun _ k => st1 _ k) ?_
  refine Go.via (S' := T1.setTop (mkF m 5 #[.val (.ref a1), .val (.ref e_)] [(.ref a1), (.int (2 : Int32))])) (fun _ k => XS.aloadN X1.here hx rfl (hb hby d6_4) rfl rfl k) ?_
  obtain ⟨T2, X2, e2, st2⟩ := getF X1 hx hZ hown (host := "") (Or.inl (hw _ (List.mem_of_getElem? (i := 25) rfl))) Via.refl e1 Fe (g := (mkF m 5 #[.val (.ref a1), .val (.ref e_)] [(.ref a1), (.int (2 : Int32))])) rfl rfl (hb hby d6_5)
  refine Go.via (S' := T2.setTop (mkF m 8 #[.val (.ref a1), .val (.ref e_)] [(.ref ar), (.int (2 : Int32))])) (fun _ k => st2 _ k) ?_
  obtain ⟨c3, Ar3, -, S3, M3, -, -⟩ := id V1
  refine Go.via (S' := T2.setTop (mkF m 9 #[.val (.ref a1), .val (.ref e_)] [(.int c3.slots.size.toInt32), (.int (2 : Int32))])) (fun _ k => X2.arraylength hx (by rw [e2]; exact Ar3.1) (State.isArrayOf_alike hZ.alike Ar3.2.1) (g := (mkF m 8 #[.val (.ref a1), .val (.ref e_)] [(.ref ar), (.int (2 : Int32))])) rfl rfl (hb hby d6_8) _ k) ?_
  rw [len_of S3 M3]
  refine Go.via (S' := T2.setTop (mkF m 33 #[.val (.ref a1), .val (.ref e_)] [])) (fun _ k => XS.icmpYes X2.here hx rfl (pc0 := 9) (pc' := 33) rfl (hb hby d6_9) rfl (feq (by decide)).2 (by decide) (by decide) k) ?_
  refine Go.via (S' := T2.setTop (mkF m 34 #[.val (.ref a1), .val (.ref e_)] [(.ref a1)])) (fun _ k => XS.aloadN X2.here hx rfl (hb hby d6_33) rfl rfl k) ?_
  obtain ⟨T4, X4, e4, st4⟩ := getF X2 hx hZ hown (host := "") (Or.inl (hw _ (List.mem_of_getElem? (i := 25) rfl))) Via.refl e2 Fe (g := (mkF m 34 #[.val (.ref a1), .val (.ref e_)] [(.ref a1)])) rfl rfl (hb hby d6_34)
  refine Go.via (S' := T4.setTop (mkF m 37 #[.val (.ref a1), .val (.ref e_)] [(.ref ar)])) (fun _ k => st4 _ k) ?_
  refine Go.via (S' := T4.setTop (mkF m 38 #[.val (.ref a1), .val (.ref e_)] [(.ref a1), (.ref ar)])) (fun _ k => XS.aloadN X4.here hx rfl (hb hby d6_37) rfl rfl k) ?_
  refine Go.via (S' := T4.setTop (mkF m 39 #[.val (.ref a1), .val (.ref e_)] [(.ref a1), (.ref a1), (.ref ar)])) (fun _ k => XS.dup X4.here hx rfl (hb hby d6_38) rfl rfl k) ?_
  obtain ⟨T5, X5, e5, st5⟩ := getF X4 hx hZ hown (host := "") (Or.inl (hw _ (List.mem_of_getElem? (i := 39) rfl))) Via.refl e4 Fs (g := (mkF m 39 #[.val (.ref a1), .val (.ref e_)] [(.ref a1), (.ref a1), (.ref ar)])) rfl rfl (hb hby d6_39)
  refine Go.via (S' := T5.setTop (mkF m 42 #[.val (.ref a1), .val (.ref e_)] [(.int (2 : Int32)), (.ref a1), (.ref ar)])) (fun _ k => st5 _ k) ?_
  refine Go.via (S' := T5.setTop (mkF m 43 #[.val (.ref a1), .val (.ref e_)] [(.int (2 : Int32)), (.ref a1), (.int (2 : Int32)), (.ref ar)])) (fun _ k => XS.dupX1 X5.here hx rfl (hb hby d6_42) rfl rfl rfl k) ?_
  refine Go.via (S' := T5.setTop (mkF m 44 #[.val (.ref a1), .val (.ref e_)] [(.int (1 : Int32)), (.int (2 : Int32)), (.ref a1), (.int (2 : Int32)), (.ref ar)])) (fun _ k => XS.iconst X5.here hx rfl (hb hby d6_43) k) ?_
  refine Go.via (S' := T5.setTop (mkF m 45 #[.val (.ref a1), .val (.ref e_)] [(.int ((2 : Int32) + (1 : Int32))), (.ref a1), (.int (2 : Int32)), (.ref ar)])) (fun _ k => XS.iadd X5.here hx rfl (hb hby d6_44) rfl k) ?_
  obtain ⟨T6, h6, X6, e6, W6, st6⟩ := putF X5 hx hZ hown (host := "") (Or.inl (hw _ (List.mem_of_getElem? (i := 39) rfl))) Via.refl e5 Fs E1 (Or.inl (hw _ (List.mem_of_getElem? (i := 40) rfl))) (hw _ (List.mem_of_getElem? (i := 2) rfl)) (ty := .int) (by decide) rfl rfl (g := (mkF m 45 #[.val (.ref a1), .val (.ref e_)] [(.int ((2 : Int32) + (1 : Int32))), (.ref a1), (.int (2 : Int32)), (.ref ar)])) rfl rfl (hb hby d6_45)
  have N7 := Fr.snoc X6 N0 g1
  have f8 := E1.wr W6
  have f9 := Fm.other W6 (Or.inr (slot_ne (Or.inl (hw _ (List.mem_of_getElem? (i := 22) rfl))) (Or.inl (hw _ (List.mem_of_getElem? (i := 40) rfl))) (by decide) (t := .int) (t' := .int) (by decide) (by decide)))
  have f10 := Fe.other W6 (Or.inr (slot_ne (Or.inl (hw _ (List.mem_of_getElem? (i := 26) rfl))) (Or.inl (hw _ (List.mem_of_getElem? (i := 40) rfl))) (by decide) (t := (.array (.object "java/lang/Object"))) (t' := .int) (by decide) (by decide)))
  have f11 := Fs.same W6
  have f12 := V1.other W6 nea
  have f13 := Ea.wr W6
  have f14 := Ee.wr W6
  have z15 := Nat.le_trans Z0 (Keep.of_wr W6).1
  have K16 := (Keep.refl h0 [a1, ar]).wr W6 (Or.inl (List.mem_of_getElem? (i := 0) rfl))
  refine Go.via (S' := T6.setTop (mkF m 48 #[.val (.ref a1), .val (.ref e_)] [(.int (2 : Int32)), (.ref ar)])) (fun _ k => st6 _ k) ?_
  have fs17 : Fld Z h6 a1 "com/example/tidegraph/tidegraph/graph/ElementList" "size" "I" (.int (3 : Int32)) := f11
  refine Go.via (S' := T6.setTop (mkF m 49 #[.val (.ref a1), .val (.ref e_)] [(.ref e_), (.int (2 : Int32)), (.ref ar)])) (fun _ k => XS.aloadN X6.here hx rfl (hb hby d6_48) rfl rfl k) ?_
  obtain ⟨c18, Ar18, q18, S18, M18, H18, G18⟩ := id f12
  obtain ⟨T18, h18, X18, e18, W18, st18⟩ := stR X6 hx hZ e6 Ar18 (j := (2 : Int32)) (inb_of S18 ⟨by decide, by decide⟩) rfl (Sto.ofV Ar18 q18 Ov (Ins.of_exa f14 (hw _ (List.mem_of_getElem? (i := 68) rfl)))) (g := (mkF m 49 #[.val (.ref a1), .val (.ref e_)] [(.ref e_), (.int (2 : Int32)), (.ref ar)])) rfl rfl (hb hby d6_49)
  have V19 : Arv Z h18 ar k (.object "java/lang/Object") (4 : Int32) [(.ref r0), (.ref r1), (.ref e_), .null] .null := Arv.set Ar18 q18 S18 M18 H18 G18 rfl W18 2 rfl (Nat.le_of_ble_eq_true rfl)
  have N20 := Fr.snoc X18 N7 g2
  have f21 := f8.wr W18
  have f22 := f9.other W18 (Or.inl (Ne.symm nea))
  have f23 := f10.other W18 (Or.inl (Ne.symm nea))
  have f24 := fs17.other W18 (Or.inl (Ne.symm nea))
  have f25 := f13.wr W18
  have f26 := f14.wr W18
  have z27 := Nat.le_trans z15 (Keep.of_wr W18).1
  have K28 := K16.wr W18 (Or.inl (List.mem_of_getElem? (i := 1) rfl))
  refine Go.via (S' := T18.setTop (mkF m 50 #[.val (.ref a1), .val (.ref e_)] [])) (fun _ k => st18 _ k) ?_
  refine Go.via (S' := T18.setTop (mkF m 51 #[.val (.ref a1), .val (.ref e_)] [(.ref a1)])) (fun _ k => XS.aloadN X18.here hx rfl (hb hby d6_50) rfl rfl k) ?_
  refine Go.via (S' := T18.setTop (mkF m 52 #[.val (.ref a1), .val (.ref e_)] [(.ref a1), (.ref a1)])) (fun _ k => XS.dup X18.here hx rfl (hb hby d6_51) rfl rfl k) ?_
  obtain ⟨T29, X29, e29, st29⟩ := getF X18 hx hZ hown (host := "") (Or.inl (hw _ (List.mem_of_getElem? (i := 69) rfl))) (Via.of (hw _ (List.mem_of_getElem? (i := 70) rfl))) e18 f22 (g := (mkF m 52 #[.val (.ref a1), .val (.ref e_)] [(.ref a1), (.ref a1)])) rfl rfl (hb hby d6_52)
  refine Go.via (S' := T29.setTop (mkF m 55 #[.val (.ref a1), .val (.ref e_)] [(.int mc), (.ref a1)])) (fun _ k => st29 _ k) ?_
  refine Go.via (S' := T29.setTop (mkF m 56 #[.val (.ref a1), .val (.ref e_)] [(.int (1 : Int32)), (.int mc), (.ref a1)])) (fun _ k => XS.iconst X29.here hx rfl (hb hby d6_55) k) ?_
  refine Go.via (S' := T29.setTop (mkF m 57 #[.val (.ref a1), .val (.ref e_)] [(.int (mc + (1 : Int32))), (.ref a1)])) (fun _ k => XS.iadd X29.here hx rfl (hb hby d6_56) rfl k) ?_
  obtain ⟨T30, h30, X30, e30, W30, st30⟩ := putF X29 hx hZ hown (host := "") (Or.inl (hw _ (List.mem_of_getElem? (i := 69) rfl))) (Via.of (hw _ (List.mem_of_getElem? (i := 70) rfl))) e29 f22 f21 (Or.inl (hw _ (List.mem_of_getElem? (i := 22) rfl))) (hw _ (List.mem_of_getElem? (i := 2) rfl)) (ty := .int) (by decide) rfl rfl (g := (mkF m 57 #[.val (.ref a1), .val (.ref e_)] [(.int (mc + (1 : Int32))), (.ref a1)])) rfl rfl (hb hby d6_57)
  have N31 := Fr.snoc X30 N20 g1
  have f32 := f21.wr W30
  have f33 := f22.same W30
  have f34 := f23.other W30 (Or.inr (slot_ne (Or.inl (hw _ (List.mem_of_getElem? (i := 26) rfl))) (Or.inl (hw _ (List.mem_of_getElem? (i := 22) rfl))) (by decide) (t := (.array (.object "java/lang/Object"))) (t' := .int) (by decide) (by decide)))
  have f35 := f24.other W30 (Or.inr (slot_ne (Or.inl (hw _ (List.mem_of_getElem? (i := 40) rfl))) (Or.inl (hw _ (List.mem_of_getElem? (i := 22) rfl))) (by decide) (t := .int) (t' := .int) (by decide) (by decide)))
  have f36 := f25.wr W30
  have f37 := f26.wr W30
  have f38 := V19.other W30 nea
  have z39 := Nat.le_trans z27 (Keep.of_wr W30).1
  have K40 := K28.wr W30 (Or.inl (List.mem_of_getElem? (i := 0) rfl))
  refine Go.via (S' := T30.setTop (mkF m 60 #[.val (.ref a1), .val (.ref e_)] [])) (fun _ k => st30 _ k) ?_
  exact Go.retV X30 hx (BodyLoose.notSynchronized Bd) Bd.returns (hb hby d6_60) (by rw [e30]; exact ⟨rfl, N31, K40, f33, f34, f35, f38⟩) (by decide) (by decide)
theorem ef_6m3 (m : MethodId) (x0 : Addr) (x1 : Addr) : entryFrame m #[(.ref x0), (.ref x1)] 2 = mkF m 0 #[.val (.ref x0), .val (.ref x1)] [] := by first | (simp [entryFrame, mkF, argsToLocals, Value.category]; done) | rfl
def Q6m3 (Z : State) (a1 : Addr) (e_ : Addr) (ar : Addr) (k : ClassId) (mc : Int32) (mr : Addr) (r0 : Addr) (r1 : Addr) (r2 : Addr) (h0 : Heap) (n0 : Nat) (v : Option Value) (h : Heap) (L : List Loc) : Prop := v = none ∧ Fr n0 L ∧ Keep h0 h [a1, ar] ∧ Fld Z h a1 "java/util/AbstractList" "modCount" "I" (.int (mc + 1)) ∧ Fld Z h a1 "com/example/tidegraph/tidegraph/graph/ElementList" "elements" "[Ljava/lang/Object;" (.ref ar) ∧ Fld Z h a1 "com/example/tidegraph/tidegraph/graph/ElementList" "size" "I" (.int (4 : Int32)) ∧ Arv Z h ar k (.object "java/lang/Object") (4 : Int32) [(.ref r0), (.ref r1), (.ref r2), (.ref e_)] .null
set_option maxRecDepth 65536 in
set_option maxHeartbeats 40000000 in
theorem rm6m3 (l : Launch) (Z : State) (a0 : Array Value) (hw : ∀ d ∈ tables_1, d.before a0 Z = true) (ws : List Jvm.Cond) (a1 : Addr) (e_ : Addr) (ar : Addr) (k : ClassId) (mc : Int32) (mr : Addr) (r0 : Addr) (r1 : Addr) (r2 : Addr) (h0 : Heap) (n0 : Nat) (Z0 : n0 ≤ h0.size) (E1 : Exa Z h0 a1 "com/example/tidegraph/tidegraph/graph/ElementList") (Fm : Fld Z h0 a1 "java/util/AbstractList" "modCount" "I" (.int mc)) (Fe : Fld Z h0 a1 "com/example/tidegraph/tidegraph/graph/ElementList" "elements" "[Ljava/lang/Object;" (.ref ar)) (Fs : Fld Z h0 a1 "com/example/tidegraph/tidegraph/graph/ElementList" "size" "I" (.int (3 : Int32))) (g1 : n0 ≤ a1) (V1 : Arv Z h0 ar k (.object "java/lang/Object") (4 : Int32) [(.ref r0), (.ref r1), (.ref r2), .null] .null) (Ea : Exa Z h0 ar "[Ljava/lang/Object;") (nea : ar ≠ a1) (Ee : Exa Z h0 e_ "java/lang/Integer") (ne1 : e_ ≠ a1) (ne2 : e_ ≠ ar) (Ov : Ovr Z k "java/lang/Object") (g2 : n0 ≤ ar) :
    MetFree l (⟨"com/example/tidegraph/tidegraph/graph/ElementList", "append", "(Ljava/lang/Object;)V"⟩ : MethodName) (head1 (Jvm.Cond.code (⟨"com/example/tidegraph/tidegraph/graph/ElementList", "append", "(Ljava/lang/Object;)V"⟩ : MethodName) prog_8_method_2_code 2 none :: ws) ({ frames := 0, cells := 0, slots := 0, locals := 0 } : Room)) (fun a U => a = #[(.ref a1), (.ref e_)] ∧ Z.Warmed39 U.vm ∧ U.heap = h0) (fun _ _ _ _ _ => True) (fun _ U o U' => ∃ v L, o = .returned v ∧ Q6m3 Z a1 e_ ar k mc mr r0 r1 r2 h0 n0 v U'.heap L ∧ FrameEnd U o U' L ({ frames := 0, cells := 0, slots := 0, locals := 0 } : Room).cells ({ frames := 0, cells := 0, slots := 0, locals := 0 } : Room).slots) := by
  refine MetFree.of_bodySF (plainFor_of_name pn_4) hisR ?_
  intro p e s m args below meth c s₁ Bd hml0 hP hK
  obtain ⟨rfl, hZ, hh⟩ := hP
  have hx := Bd.exec
  have hby := Bd.bytes
  have hml : c.maxLocals = 2 := hml0
  have hown : s.vm.findClass "com/example/tidegraph/tidegraph/graph/ElementList" = some m.cls := findClass_of_methodNamed Bd.named
  have hnm := (name_of_methodNamed Bd.named Bd.method).1
  have X0 : Stand p l e ({ frames := 0, cells := 0, slots := 0, locals := 0 } : Room) s m #[(.ref a1), (.ref e_)] below meth c s₁ [] 0 0 := Stand.of_body Bd
  have e0 : s₁.heap = h0 := by rw [← hh, Bd.state]; rfl
  have N0 := Fr.nil n0
  show Go p e below s (Q6m3 Z a1 e_ ar k mc mr r0 r1 r2 h0 n0) ({ frames := 0, cells := 0, slots := 0, locals := 0 } : Room).cells ({ frames := 0, cells := 0, slots := 0, locals := 0 } : Room).slots _
  refine Go.via (S' := s₁.setTop (mkF m 0 #[.val (.ref a1), .val (.ref e_)] [])) (fun t k => castTop (ef_6m3 m a1 e_) k) ?_
  refine Go.via (S' := s₁.setTop (mkF m 1 #[.val (.ref a1), .val (.ref e_)] [(.ref a1)])) (fun _ k => XS.aloadN X0.here hx rfl (hb hby d6_0) rfl rfl k) ?_
  obtain ⟨T1, X1, e1, st1⟩ := getF X0 hx hZ hown (host := "") (Or.inl (hw _ (List.mem_of_getElem? (i := 39) rfl))) Via.refl e0 Fs (g := (mkF m 1 #[.val (.ref a1), .val (.ref e_)] [(.ref a1)])) rfl rfl (hb hby d6_1)
  refine Go.via (S' := T1.setTop (mkF m 4 #[.val (.ref a1), .val (.ref e_)] [(.int (3 : Int32))])) (fun _ k => st1 _ k) ?_
  refine Go.via (S' := T1.setTop (mkF m 5 #[.val (.ref a1), .val (.ref e_)] [(.ref a1), (.int (3 : Int32))])) (fun _ k => XS.aloadN X1.here hx rfl (hb hby d6_4) rfl rfl k) ?_
  obtain ⟨T2, X2, e2, st2⟩ := getF X1 hx hZ hown (host := "") (Or.inl (hw _ (List.mem_of_getElem? (i := 25) rfl))) Via.refl e1 Fe (g := (mkF m 5 #[.val (.ref a1), .val (.ref e_)] [(.ref a1), (.int (3 : Int32))])) rfl rfl (hb hby d6_5)
  refine Go.via (S' := T2.setTop (mkF m 8 #[.val (.ref a1), .val (.ref e_)] [(.ref ar), (.int (3 : Int32))])) (fun _ k => st2 _ k) ?_
  obtain ⟨c3, Ar3, -, S3, M3, -, -⟩ := id V1
  refine Go.via (S' := T2.setTop (mkF m 9 #[.val (.ref a1), .val (.ref e_)] [(.int c3.slots.size.toInt32), (.int (3 : Int32))])) (fun _ k => X2.arraylength hx (by rw [e2]; exact Ar3.1) (State.isArrayOf_alike hZ.alike Ar3.2.1) (g := (mkF m 8 #[.val (.ref a1), .val (.ref e_)] [(.ref ar), (.int (3 : Int32))])) rfl rfl (hb hby d6_8) _ k) ?_
  rw [len_of S3 M3]
  refine Go.via (S' := T2.setTop (mkF m 33 #[.val (.ref a1), .val (.ref e_)] [])) (fun _ k => XS.icmpYes X2.here hx rfl (pc0 := 9) (pc' := 33) rfl (hb hby d6_9) rfl (feq (by decide)).2 (by decide) (by decide) k) ?_
  refine Go.via (S' := T2.setTop (mkF m 34 #[.val (.ref a1), .val (.ref e_)] [(.ref a1)])) (fun _ k => XS.aloadN X2.here hx rfl (hb hby d6_33) rfl rfl k) ?_
  obtain ⟨T4, X4, e4, st4⟩ := getF X2 hx hZ hown (host := "") (Or.inl (hw _ (List.mem_of_getElem? (i := 25) rfl))) Via.refl e2 Fe (g := (mkF m 34 #[.val (.ref a1), .val (.ref e_)] [(.ref a1)])) rfl rfl (hb hby d6_34)
  refine Go.via (S' := T4.setTop (mkF m 37 #[.val (.ref a1), .val (.ref e_)] [(.ref ar)])) (fun _ k => st4 _ k) ?_
  refine Go.via (S' := T4.setTop (mkF m 38 #[.val (.ref a1), .val (.ref e_)] [(.ref a1), (.ref ar)])) (fun _ k => XS.aloadN X4.here hx rfl (hb hby d6_37) rfl rfl k) ?_
  refine Go.via (S' := T4.setTop (mkF m 39 #[.val (.ref a1), .val (.ref e_)] [(.ref a1), (.ref a1), (.ref ar)])) (fun _ k => XS.dup X4.here hx rfl (hb hby d6_38) rfl rfl k) ?_
  obtain ⟨T5, X5, e5, st5⟩ := getF X4 hx hZ hown (host := "") (Or.inl (hw _ (List.mem_of_getElem? (i := 39) rfl))) Via.refl e4 Fs (g := (mkF m 39 #[.val (.ref a1), .val (.ref e_)] [(.ref a1), (.ref a1), (.ref ar)])) rfl rfl (hb hby d6_39)
  refine Go.via (S' := T5.setTop (mkF m 42 #[.val (.ref a1), .val (.ref e_)] [(.int (3 : Int32)), (.ref a1), (.ref ar)])) (fun _ k => st5 _ k) ?_
  refine Go.via (S' := T5.setTop (mkF m 43 #[.val (.ref a1), .val (.ref e_)] [(.int (3 : Int32)), (.ref a1), (.int (3 : Int32)), (.ref ar)])) (fun _ k => XS.dupX1 X5.here hx rfl (hb hby d6_42) rfl rfl rfl k) ?_
  refine Go.via (S' := T5.setTop (mkF m 44 #[.val (.ref a1), .val (.ref e_)] [(.int (1 : Int32)), (.int (3 : Int32)), (.ref a1), (.int (3 : Int32)), (.ref ar)])) (fun _ k => XS.iconst X5.here hx rfl (hb hby d6_43) k) ?_
  refine Go.via (S' := T5.setTop (mkF m 45 #[.val (.ref a1), .val (.ref e_)] [(.int ((3 : Int32) + (1 : Int32))), (.ref a1), (.int (3 : Int32)), (.ref ar)])) (fun _ k => XS.iadd X5.here hx rfl (hb hby d6_44) rfl k) ?_
  obtain ⟨T6, h6, X6, e6, W6, st6⟩ := putF X5 hx hZ hown (host := "") (Or.inl (hw _ (List.mem_of_getElem? (i := 39) rfl))) Via.refl e5 Fs E1 (Or.inl (hw _ (List.mem_of_getElem? (i := 40) rfl))) (hw _ (List.mem_of_getElem? (i := 2) rfl)) (ty := .int) (by decide) rfl rfl (g := (mkF m 45 #[.val (.ref a1), .val (.ref e_)] [(.int ((3 : Int32) + (1 : Int32))), (.ref a1), (.int (3 : Int32)), (.ref ar)])) rfl rfl (hb hby d6_45)
  have N7 := Fr.snoc X6 N0 g1
  have f8 := E1.wr W6
  have f9 := Fm.other W6 (Or.inr (slot_ne (Or.inl (hw _ (List.mem_of_getElem? (i := 22) rfl))) (Or.inl (hw _ (List.mem_of_getElem? (i := 40) rfl))) (by decide) (t := .int) (t' := .int) (by decide) (by decide)))
  have f10 := Fe.other W6 (Or.inr (slot_ne (Or.inl (hw _ (List.mem_of_getElem? (i := 26) rfl))) (Or.inl (hw _ (List.mem_of_getElem? (i := 40) rfl))) (by decide) (t := (.array (.object "java/lang/Object"))) (t' := .int) (by decide) (by decide)))
  have f11 := Fs.same W6
  have f12 := V1.other W6 nea
  have f13 := Ea.wr W6
  have f14 := Ee.wr W6
  have z15 := Nat.le_trans Z0 (Keep.of_wr W6).1
  have K16 := (Keep.refl h0 [a1, ar]).wr W6 (Or.inl (List.mem_of_getElem? (i := 0) rfl))
  refine Go.via (S' := T6.setTop (mkF m 48 #[.val (.ref a1), .val (.ref e_)] [(.int (3 : Int32)), (.ref ar)])) (fun _ k => st6 _ k) ?_
  have fs17 : Fld Z h6 a1 "com/example/tidegraph/tidegraph/graph/ElementList" "size" "I" (.int (4 : Int32)) := f11
  refine Go.via (S' := T6.setTop (mkF m 49 #[.val (.ref a1), .val (.ref e_)] [(.ref e_), (.int (3 : Int32)), (.ref ar)])) (fun _ k => XS.aloadN X6.here hx rfl (hb hby d6_48) rfl rfl k) ?_
  obtain ⟨c18, Ar18, q18, S18, M18, H18, G18⟩ := id f12
  obtain ⟨T18, h18, X18, e18, W18, st18⟩ := stR X6 hx hZ e6 Ar18 (j := (3 : Int32)) (inb_of S18 ⟨by decide, by decide⟩) rfl (Sto.ofV Ar18 q18 Ov (Ins.of_exa f14 (hw _ (List.mem_of_getElem? (i := 68) rfl)))) (g := (mkF m 49 #[.val (.ref a1), .val (.ref e_)] [(.ref e_), (.int (3 : Int32)), (.ref ar)])) rfl rfl (hb hby d6_49)
  have V19 : Arv Z h18 ar k (.object "java/lang/Object") (4 : Int32) [(.ref r0), (.ref r1), (.ref r2), (.ref e_)] .null := Arv.set Ar18 q18 S18 M18 H18 G18 rfl W18 3 rfl (Nat.le_of_ble_eq_true rfl)
  have N20 := Fr.snoc X18 N7 g2
  have f21 := f8.wr W18
  have f22 := f9.other W18 (Or.inl (Ne.symm nea))
  have f23 := f10.other W18 (Or.inl (Ne.symm nea))
  have f24 := fs17.other W18 (Or.inl (Ne.symm nea))
  have f25 := f13.wr W18
  have f26 := f14.wr W18
  have z27 := Nat.le_trans z15 (Keep.of_wr W18).1
  have K28 := K16.wr W18 (Or.inl (List.mem_of_getElem? (i := 1) rfl))
  refine Go.via (S' := T18.setTop (mkF m 50 #[.val (.ref a1), .val (.ref e_)] [])) (fun _ k => st18 _ k) ?_
  refine Go.via (S' := T18.setTop (mkF m 51 #[.val (.ref a1), .val (.ref e_)] [(.ref a1)])) (fun _ k => XS.aloadN X18.here hx rfl (hb hby d6_50) rfl rfl k) ?_
  refine Go.via (S' := T18.setTop (mkF m 52 #[.val (.ref a1), .val (.ref e_)] [(.ref a1), (.ref a1)])) (fun _ k => XS.dup X18.here hx rfl (hb hby d6_51) rfl rfl k) ?_
  obtain ⟨T29, X29, e29, st29⟩ := getF X18 hx hZ hown (host := "") (Or.inl (hw _ (List.mem_of_getElem? (i := 69) rfl))) (Via.of (hw _ (List.mem_of_getElem? (i := 70) rfl))) e18 f22 (g := (mkF m 52 #[.val (.ref a1), .val (.ref e_)] [(.ref a1), (.ref a1)])) rfl rfl (hb hby d6_52)
  refine Go.via (S' := T29.setTop (mkF m 55 #[.val (.ref a1), .val (.ref e_)] [(.int mc), (.ref a1)])) (fun _ k => st29 _ k) ?_
  refine Go.via (S' := T29.setTop (mkF m 56 #[.val (.ref a1), .val (.ref e_)] [(.int (1 : Int32)), (.int mc), (.ref a1)])) (fun _ k => XS.iconst X29.here hx rfl (hb hby d6_55) k) ?_
  refine Go.via (S' := T29.setTop (mkF m 57 #[.val (.ref a1), .val (.ref e_)] [(.int (mc + (1 : Int32))), (.ref a1)])) (fun _ k => XS.iadd X29.here hx rfl (hb hby d6_56) rfl k) ?_
  obtain ⟨T30, h30, X30, e30, W30, st30⟩ := putF X29 hx hZ hown (host := "") (Or.inl (hw _ (List.mem_of_getElem? (i := 69) rfl))) (Via.of (hw _ (List.mem_of_getElem? (i := 70) rfl))) e29 f22 f21 (Or.inl (hw _ (List.mem_of_getElem? (i := 22) rfl))) (hw _ (List.mem_of_getElem? (i := 2) rfl)) (ty := .int) (by decide) rfl rfl (g := (mkF m 57 #[.val (.ref a1), .val (.ref e_)] [(.int (mc + (1 : Int32))), (.ref a1)])) rfl rfl (hb hby d6_57)
  have N31 := Fr.snoc X30 N20 g1
  have f32 := f21.wr W30
  have f33 := f22.same W30
  have f34 := f23.other W30 (Or.inr (slot_ne (Or.inl (hw _ (List.mem_of_getElem? (i := 26) rfl))) (Or.inl (hw _ (List.mem_of_getElem? (i := 22) rfl))) (by decide) (t := (.array (.object "java/lang/Object"))) (t' := .int) (by decide) (by decide)))
  have f35 := f24.other W30 (Or.inr (slot_ne (Or.inl (hw _ (List.mem_of_getElem? (i := 40) rfl))) (Or.inl (hw _ (List.mem_of_getElem? (i := 22) rfl))) (by decide) (t := .int) (t' := .int) (by decide) (by decide)))
  have f36 := f25.wr W30
  have f37 := f26.wr W30
  have f38 := V19.other W30 nea
  have z39 := Nat.le_trans z27 (Keep.of_wr W30).1
  have K40 := K28.wr W30 (Or.inl (List.mem_of_getElem? (i := 0) rfl))
  refine Go.via (S' := T30.setTop (mkF m 60 #[.val (.ref a1), .val (.ref e_)] [])) (fun _ k => st30 _ k) ?_
  exact Go.retV X30 hx (BodyLoose.notSynchronized Bd) Bd.returns (hb hby d6_60) (by rw [e30]; exact ⟨rfl, N31, K40, f33, f34, f35, f38⟩) (by decide) (by decide)
theorem ef_6m4 (m : MethodId) (x0 : Addr) (x1 : Addr) : entryFrame m #[(.ref x0), (.ref x1)] 2 = mkF m 0 #[.val (.ref x0), .val (.ref x1)] [] := by first | (simp [entryFrame, mkF, argsToLocals, Value.category]; done) | rfl
def Q6m4 (Z : State) (a1 : Addr) (e_ : Addr) (ar : Addr) (k : ClassId) (mc : Int32) (mr : Addr) (r0 : Addr) (r1 : Addr) (r2 : Addr) (r3 : Addr) (h0 : Heap) (n0 : Nat) (v : Option Value) (h : Heap) (L : List Loc) : Prop := v = none ∧ Fr n0 L ∧ Keep h0 h [a1] ∧ ∃ (ar2 : Addr) (k2 : ClassId), n0 ≤ ar2 ∧ h0.size ≤ ar2 ∧ Exa Z h ar2 "[Ljava/lang/Object;" ∧ Ovr Z k2 "java/lang/Object" ∧ Fld Z h a1 "java/util/AbstractList" "modCount" "I" (.int (mc + 1)) ∧ Fld Z h a1 "com/example/tidegraph/tidegraph/graph/ElementList" "elements" "[Ljava/lang/Object;" (.ref ar2) ∧ Fld Z h a1 "com/example/tidegraph/tidegraph/graph/ElementList" "size" "I" (.int (5 : Int32)) ∧ Arv Z h ar2 k2 (.object "java/lang/Object") (8 : Int32) [(.ref r0), (.ref r1), (.ref r2), (.ref r3), (.ref e_), .null, .null, .null] .null
set_option maxRecDepth 65536 in
set_option maxHeartbeats 40000000 in
theorem rm6m4 (l : Launch) (Z : State) (a0 : Array Value) (hw : ∀ d ∈ tables_1, d.before a0 Z = true) (ws : List Jvm.Cond) (a1 : Addr) (e_ : Addr) (ar : Addr) (k : ClassId) (mc : Int32) (mr : Addr) (r0 : Addr) (r1 : Addr) (r2 : Addr) (r3 : Addr) (h0 : Heap) (n0 : Nat) (Z0 : n0 ≤ h0.size) (E1 : Exa Z h0 a1 "com/example/tidegraph/tidegraph/graph/ElementList") (Fm : Fld Z h0 a1 "java/util/AbstractList" "modCount" "I" (.int mc)) (Fe : Fld Z h0 a1 "com/example/tidegraph/tidegraph/graph/ElementList" "elements" "[Ljava/lang/Object;" (.ref ar)) (Fs : Fld Z h0 a1 "com/example/tidegraph/tidegraph/graph/ElementList" "size" "I" (.int (4 : Int32))) (g1 : n0 ≤ a1) (V1 : Arv Z h0 ar k (.object "java/lang/Object") (4 : Int32) [(.ref r0), (.ref r1), (.ref r2), (.ref r3)] .null) (Ea : Exa Z h0 ar "[Ljava/lang/Object;") (nea : ar ≠ a1) (Ee : Exa Z h0 e_ "java/lang/Integer") (ne1 : e_ ≠ a1) (ne2 : e_ ≠ ar) (I0 : Exa Z h0 r0 "java/lang/Integer") (I1 : Exa Z h0 r1 "java/lang/Integer") (I2 : Exa Z h0 r2 "java/lang/Integer") (I3 : Exa Z h0 r3 "java/lang/Integer") (Mr : Mir Z "[Ljava/lang/Object;" mr) :
    MetFree l (⟨"com/example/tidegraph/tidegraph/graph/ElementList", "append", "(Ljava/lang/Object;)V"⟩ : MethodName) (head1 (Jvm.Cond.code (⟨"com/example/tidegraph/tidegraph/graph/ElementList", "append", "(Ljava/lang/Object;)V"⟩ : MethodName) prog_8_method_2_code 2 none :: ws) ({ frames := 3, cells := 1, slots := 8, locals := 89 } : Room)) (fun a U => a = #[(.ref a1), (.ref e_)] ∧ Z.Warmed39 U.vm ∧ U.heap = h0) (fun _ _ _ _ _ => True) (fun _ U o U' => ∃ v L, o = .returned v ∧ Q6m4 Z a1 e_ ar k mc mr r0 r1 r2 r3 h0 n0 v U'.heap L ∧ FrameEnd U o U' L ({ frames := 3, cells := 1, slots := 8, locals := 89 } : Room).cells ({ frames := 3, cells := 1, slots := 8, locals := 89 } : Room).slots) := by
  refine MetFree.of_bodySF (plainFor_of_name pn_4) hisR ?_
  intro p e s m args below meth c s₁ Bd hml0 hP hK
  obtain ⟨rfl, hZ, hh⟩ := hP
  have hx := Bd.exec
  have hby := Bd.bytes
  have hml : c.maxLocals = 2 := hml0
  have hown : s.vm.findClass "com/example/tidegraph/tidegraph/graph/ElementList" = some m.cls := findClass_of_methodNamed Bd.named
  have hnm := (name_of_methodNamed Bd.named Bd.method).1
  have X0 : Stand p l e ({ frames := 3, cells := 1, slots := 8, locals := 89 } : Room) s m #[(.ref a1), (.ref e_)] below meth c s₁ [] 0 0 := Stand.of_body Bd
  have e0 : s₁.heap = h0 := by rw [← hh, Bd.state]; rfl
  have N0 := Fr.nil n0
  show Go p e below s (Q6m4 Z a1 e_ ar k mc mr r0 r1 r2 r3 h0 n0) ({ frames := 3, cells := 1, slots := 8, locals := 89 } : Room).cells ({ frames := 3, cells := 1, slots := 8, locals := 89 } : Room).slots _
  refine Go.via (S' := s₁.setTop (mkF m 0 #[.val (.ref a1), .val (.ref e_)] [])) (fun t k => castTop (ef_6m4 m a1 e_) k) ?_
  refine Go.via (S' := s₁.setTop (mkF m 1 #[.val (.ref a1), .val (.ref e_)] [(.ref a1)])) (fun _ k => XS.aloadN X0.here hx rfl (hb hby d6_0) rfl rfl k) ?_
  obtain ⟨T1, X1, e1, st1⟩ := getF X0 hx hZ hown (host := "") (Or.inl (hw _ (List.mem_of_getElem? (i := 39) rfl))) Via.refl e0 Fs (g := (mkF m 1 #[.val (.ref a1), .val (.ref e_)] [(.ref a1)])) rfl rfl (hb hby d6_1)
  refine Go.via (S' := T1.setTop (mkF m 4 #[.val (.ref a1), .val (.ref e_)] [(.int (4 : Int32))])) (fun _ k => st1 _ k) ?_
  refine Go.via (S' := T1.setTop (mkF m 5 #[.val (.ref a1), .val (.ref e_)] [(.ref a1), (.int (4 : Int32))])) (fun _ k => XS.aloadN X1.here hx rfl (hb hby d6_4) rfl rfl k) ?_
  obtain ⟨T2, X2, e2, st2⟩ := getF X1 hx hZ hown (host := "") (Or.inl (hw _ (List.mem_of_getElem? (i := 25) rfl))) Via.refl e1 Fe (g := (mkF m 5 #[.val (.ref a1), .val (.ref e_)] [(.ref a1), (.int (4 : Int32))])) rfl rfl (hb hby d6_5)
  refine Go.via (S' := T2.setTop (mkF m 8 #[.val (.ref a1), .val (.ref e_)] [(.ref ar), (.int (4 : Int32))])) (fun _ k => st2 _ k) ?_
  obtain ⟨c3, Ar3, -, S3, M3, -, -⟩ := id V1
  refine Go.via (S' := T2.setTop (mkF m 9 #[.val (.ref a1), .val (.ref e_)] [(.int c3.slots.size.toInt32), (.int (4 : Int32))])) (fun _ k => X2.arraylength hx (by rw [e2]; exact Ar3.1) (State.isArrayOf_alike hZ.alike Ar3.2.1) (g := (mkF m 8 #[.val (.ref a1), .val (.ref e_)] [(.ref ar), (.int (4 : Int32))])) rfl rfl (hb hby d6_8) _ k) ?_
  rw [len_of S3 M3]
  refine Go.via (S' := T2.setTop (mkF m 12 #[.val (.ref a1), .val (.ref e_)] [])) (fun _ k => XS.icmpNo X2.here hx rfl (hb hby d6_9) rfl (teq (by decide)).2 k) ?_
  refine Go.via (S' := T2.setTop (mkF m 13 #[.val (.ref a1), .val (.ref e_)] [(.ref a1)])) (fun _ k => XS.aloadN X2.here hx rfl (hb hby d6_12) rfl rfl k) ?_
  refine Go.via (S' := T2.setTop (mkF m 14 #[.val (.ref a1), .val (.ref e_)] [(.ref a1), (.ref a1)])) (fun _ k => XS.aloadN X2.here hx rfl (hb hby d6_13) rfl rfl k) ?_
  obtain ⟨T4, X4, e4, st4⟩ := getF X2 hx hZ hown (host := "") (Or.inl (hw _ (List.mem_of_getElem? (i := 25) rfl))) Via.refl e2 Fe (g := (mkF m 14 #[.val (.ref a1), .val (.ref e_)] [(.ref a1), (.ref a1)])) rfl rfl (hb hby d6_14)
  refine Go.via (S' := T4.setTop (mkF m 17 #[.val (.ref a1), .val (.ref e_)] [(.ref ar), (.ref a1)])) (fun _ k => st4 _ k) ?_
  refine Go.via (S' := T4.setTop (mkF m 18 #[.val (.ref a1), .val (.ref e_)] [(.int (4 : Int32)), (.ref ar), (.ref a1)])) (fun _ k => XS.iconst X4.here hx rfl (hb hby d6_17) k) ?_
  refine Go.via (S' := T4.setTop (mkF m 19 #[.val (.ref a1), .val (.ref e_)] [(.int (2 : Int32)), (.int (4 : Int32)), (.ref ar), (.ref a1)])) (fun _ k => XS.iconst X4.here hx rfl (hb hby d6_18) k) ?_
  refine Go.via (S' := T4.setTop (mkF m 20 #[.val (.ref a1), .val (.ref e_)] [(.ref a1), (.int (2 : Int32)), (.int (4 : Int32)), (.ref ar), (.ref a1)])) (fun _ k => XS.aloadN X4.here hx rfl (hb hby d6_19) rfl rfl k) ?_
  obtain ⟨T5, X5, e5, st5⟩ := getF X4 hx hZ hown (host := "") (Or.inl (hw _ (List.mem_of_getElem? (i := 39) rfl))) Via.refl e4 Fs (g := (mkF m 20 #[.val (.ref a1), .val (.ref e_)] [(.ref a1), (.int (2 : Int32)), (.int (4 : Int32)), (.ref ar), (.ref a1)])) rfl rfl (hb hby d6_20)
  refine Go.via (S' := T5.setTop (mkF m 23 #[.val (.ref a1), .val (.ref e_)] [(.int (4 : Int32)), (.int (2 : Int32)), (.int (4 : Int32)), (.ref ar), (.ref a1)])) (fun _ k => st5 _ k) ?_
  refine Go.via (S' := T5.setTop (mkF m 24 #[.val (.ref a1), .val (.ref e_)] [(.int ((2 : Int32) * (4 : Int32))), (.int (4 : Int32)), (.ref ar), (.ref a1)])) (fun _ k => XS.imul X5.here hx rfl (hb hby d6_23) rfl k) ?_
  obtain ⟨_, _, ⟨T6, L6, k6, n6⟩, -, X6, ⟨Lc6, hQ6, l6, y6, z6⟩, st6⟩ := Jvm.LawKit.callS X5 hx (y := (⟨"java/lang/Math", "max", "(II)I"⟩ : MethodName)) hown (mvT hZ (hw _ (List.mem_of_getElem? (i := 41) rfl))) (mvT hZ (hw _ (List.mem_of_getElem? (i := 42) rfl))) (mvT hZ (hw _ (List.mem_of_getElem? (i := 43) rfl))) (mvT hZ (hw _ (List.mem_of_getElem? (i := 44) rfl))) (by decide) (backOf (W := 2) (rm7 l Z a0 hw [] (4 : Int32) ((2 : Int32) * (4 : Int32)) h0 n0 Z0) hZ (hw _ (List.mem_of_getElem? (i := 44) rfl)) (hw _ (List.mem_of_getElem? (i := 43) rfl)) (by decide) (by decide)) (g := (mkF m 24 #[.val (.ref a1), .val (.ref e_)] [(.int ((2 : Int32) * (4 : Int32))), (.int (4 : Int32)), (.ref ar), (.ref a1)])) rfl (by rw [hml]; rfl) (argsL := [(.int (4 : Int32)), (.int ((2 : Int32) * (4 : Int32)))]) (rest := [(.ref ar), (.ref a1)]) (lenOf pd_2 rfl) rfl (by show 2 * 0 + _ ≤ _; exact Nat.le_of_eq rfl) (hb hby d6_24) (fun _ _ => ⟨rfl, e5, (by decide : 0 + 0 ≤ _), (by decide : 0 + 0 ≤ _)⟩)
  dsimp only [Pt.U, Pt.locs, Pt.cells, Pt.slots] at X6 l6 y6 z6 st6 hQ6
  subst l6 y6 z6
  obtain ⟨r6, rfl, N6q, e6, hr6⟩ := hQ6
  obtain rfl : r6 = (8 : Int32) := Int32.toInt_inj.mp (hr6.trans (by decide))
  have N7 := Fr.app N0 N6q
  refine Go.via (S' := T6.setTop (mkF m 27 #[.val (.ref a1), .val (.ref e_)] [(.int (8 : Int32)), (.ref ar), (.ref a1)])) (fun _ k => st6 _ k) ?_
  obtain ⟨_, _, ⟨T8, L8, k8, n8⟩, -, X8, ⟨Lc8, hQ8, l8, y8, z8⟩, st8⟩ := Jvm.LawKit.callS X6 hx (y := (⟨"java/util/Arrays", "copyOf", "([Ljava/lang/Object;I)[Ljava/lang/Object;"⟩ : MethodName)) hown (mvT hZ (hw _ (List.mem_of_getElem? (i := 45) rfl))) (mvT hZ (hw _ (List.mem_of_getElem? (i := 46) rfl))) (mvT hZ (hw _ (List.mem_of_getElem? (i := 47) rfl))) (mvT hZ (hw _ (List.mem_of_getElem? (i := 48) rfl))) (by decide) (backOf (W := 1) (rm8c4 l Z a0 hw [] ar (8 : Int32) mr k r0 r1 r2 r3 h0 n0 Z0 rfl V1 Ea I0 I1 I2 I3 Mr) hZ (hw _ (List.mem_of_getElem? (i := 48) rfl)) (hw _ (List.mem_of_getElem? (i := 47) rfl)) (by decide) (by decide)) (g := (mkF m 27 #[.val (.ref a1), .val (.ref e_)] [(.int (8 : Int32)), (.ref ar), (.ref a1)])) rfl (by rw [hml]; rfl) (argsL := [(.ref ar), (.int (8 : Int32))]) (rest := [(.ref a1)]) (lenOf pd_4 rfl) rfl (by show 2 * 0 + _ ≤ _; exact Nat.le_of_eq rfl) (hb hby d6_27) (fun _ _ => ⟨rfl, e6, (by decide : 0 + 1 ≤ _), (by decide : 0 + 8 ≤ _)⟩)
  dsimp only [Pt.U, Pt.locs, Pt.cells, Pt.slots] at X8 l8 y8 z8 st8 hQ8
  subst l8 y8 z8
  obtain ⟨r8, kk8, rfl, N8q, K8, u18, u28, Er8, Or8, Vr8⟩ := hQ8
  have N9 := Fr.app N7 N8q
  have f10 := E1.keep K8
  have f11 := Fm.keep K8 nin0
  have f12 := Fe.keep K8 nin0
  have f13 := Fs.keep K8 nin0
  have f14 := V1.keep K8 nin0
  have f15 := Ea.keep K8
  have f16 := Ee.keep K8
  have f17 := I0.keep K8
  have f18 := I1.keep K8
  have f19 := I2.keep K8
  have f20 := I3.keep K8
  have z21 := Nat.le_trans Z0 K8.1
  have K22 := (Keep.refl h0 [a1]).trans K8 all0
  refine Go.via (S' := T8.setTop (mkF m 30 #[.val (.ref a1), .val (.ref e_)] [(.ref r8), (.ref a1)])) (fun _ k => st8 _ k) ?_
  have ne23 : a1 ≠ r8 := Nat.ne_of_lt (Nat.lt_of_lt_of_le E1.lt u28)
  have ne24 : ar ≠ r8 := Nat.ne_of_lt (Nat.lt_of_lt_of_le V1.lt u28)
  have ne25 : e_ ≠ r8 := Nat.ne_of_lt (Nat.lt_of_lt_of_le Ee.lt u28)
  have ne26 : r0 ≠ r8 := Nat.ne_of_lt (Nat.lt_of_lt_of_le I0.lt u28)
  have ne27 : r1 ≠ r8 := Nat.ne_of_lt (Nat.lt_of_lt_of_le I1.lt u28)
  have ne28 : r2 ≠ r8 := Nat.ne_of_lt (Nat.lt_of_lt_of_le I2.lt u28)
  have ne29 : r3 ≠ r8 := Nat.ne_of_lt (Nat.lt_of_lt_of_le I3.lt u28)
  have g30 : h0.size ≤ r8 := Nat.le_trans (Keep.refl h0 [a1]).1 u28
  obtain ⟨T31, h31, X31, e31, W31, st31⟩ := putF X8 hx hZ hown (host := "") (Or.inl (hw _ (List.mem_of_getElem? (i := 25) rfl))) Via.refl rfl f12 f10 (Or.inl (hw _ (List.mem_of_getElem? (i := 26) rfl))) (hw _ (List.mem_of_getElem? (i := 2) rfl)) (ty := (.array (.object "java/lang/Object"))) (by decide) rfl rfl (g := (mkF m 30 #[.val (.ref a1), .val (.ref e_)] [(.ref r8), (.ref a1)])) rfl rfl (hb hby d6_30)
  have N32 := Fr.snoc X31 N9 g1
  have f33 := f10.wr W31
  have f34 := f11.other W31 (Or.inr (slot_ne (Or.inl (hw _ (List.mem_of_getElem? (i := 22) rfl))) (Or.inl (hw _ (List.mem_of_getElem? (i := 26) rfl))) (by decide) (t := .int) (t' := (.array (.object "java/lang/Object"))) (by decide) (by decide)))
  have f35 := f12.same W31
  have f36 := f13.other W31 (Or.inr (slot_ne (Or.inl (hw _ (List.mem_of_getElem? (i := 40) rfl))) (Or.inl (hw _ (List.mem_of_getElem? (i := 26) rfl))) (by decide) (t := .int) (t' := (.array (.object "java/lang/Object"))) (by decide) (by decide)))
  have f37 := f14.other W31 nea
  have f38 := f15.wr W31
  have f39 := f16.wr W31
  have f40 := f17.wr W31
  have f41 := f18.wr W31
  have f42 := f19.wr W31
  have f43 := f20.wr W31
  have f44 := Vr8.other W31 (Ne.symm ne23)
  have f45 := Er8.wr W31
  have z46 := Nat.le_trans z21 (Keep.of_wr W31).1
  have K47 := K22.wr W31 (Or.inl (List.mem_of_getElem? (i := 0) rfl))
  refine Go.via (S' := T31.setTop (mkF m 33 #[.val (.ref a1), .val (.ref e_)] [])) (fun _ k => st31 _ k) ?_
  refine Go.via (S' := T31.setTop (mkF m 34 #[.val (.ref a1), .val (.ref e_)] [(.ref a1)])) (fun _ k => XS.aloadN X31.here hx rfl (hb hby d6_33) rfl rfl k) ?_
  obtain ⟨T48, X48, e48, st48⟩ := getF X31 hx hZ hown (host := "") (Or.inl (hw _ (List.mem_of_getElem? (i := 25) rfl))) Via.refl e31 f35 (g := (mkF m 34 #[.val (.ref a1), .val (.ref e_)] [(.ref a1)])) rfl rfl (hb hby d6_34)
  refine Go.via (S' := T48.setTop (mkF m 37 #[.val (.ref a1), .val (.ref e_)] [(.ref r8)])) (fun _ k => st48 _ k) ?_
  refine Go.via (S' := T48.setTop (mkF m 38 #[.val (.ref a1), .val (.ref e_)] [(.ref a1), (.ref r8)])) (fun _ k => XS.aloadN X48.here hx rfl (hb hby d6_37) rfl rfl k) ?_
  refine Go.via (S' := T48.setTop (mkF m 39 #[.val (.ref a1), .val (.ref e_)] [(.ref a1), (.ref a1), (.ref r8)])) (fun _ k => XS.dup X48.here hx rfl (hb hby d6_38) rfl rfl k) ?_
  obtain ⟨T49, X49, e49, st49⟩ := getF X48 hx hZ hown (host := "") (Or.inl (hw _ (List.mem_of_getElem? (i := 39) rfl))) Via.refl e48 f36 (g := (mkF m 39 #[.val (.ref a1), .val (.ref e_)] [(.ref a1), (.ref a1), (.ref r8)])) rfl rfl (hb hby d6_39)
  refine Go.via (S' := T49.setTop (mkF m 42 #[.val (.ref a1), .val (.ref e_)] [(.int (4 : Int32)), (.ref a1), (.ref r8)])) (fun _ k => st49 _ k) ?_
  refine Go.via (S' := T49.setTop (mkF m 43 #[.val (.ref a1), .val (.ref e_)] [(.int (4 : Int32)), (.ref a1), (.int (4 : Int32)), (.ref r8)])) (fun _ k => XS.dupX1 X49.here hx rfl (hb hby d6_42) rfl rfl rfl k) ?_
  refine Go.via (S' := T49.setTop (mkF m 44 #[.val (.ref a1), .val (.ref e_)] [(.int (1 : Int32)), (.int (4 : Int32)), (.ref a1), (.int (4 : Int32)), (.ref r8)])) (fun _ k => XS.iconst X49.here hx rfl (hb hby d6_43) k) ?_
  refine Go.via (S' := T49.setTop (mkF m 45 #[.val (.ref a1), .val (.ref e_)] [(.int ((4 : Int32) + (1 : Int32))), (.ref a1), (.int (4 : Int32)), (.ref r8)])) (fun _ k => XS.iadd X49.here hx rfl (hb hby d6_44) rfl k) ?_
  obtain ⟨T50, h50, X50, e50, W50, st50⟩ := putF X49 hx hZ hown (host := "") (Or.inl (hw _ (List.mem_of_getElem? (i := 39) rfl))) Via.refl e49 f36 f33 (Or.inl (hw _ (List.mem_of_getElem? (i := 40) rfl))) (hw _ (List.mem_of_getElem? (i := 2) rfl)) (ty := .int) (by decide) rfl rfl (g := (mkF m 45 #[.val (.ref a1), .val (.ref e_)] [(.int ((4 : Int32) + (1 : Int32))), (.ref a1), (.int (4 : Int32)), (.ref r8)])) rfl rfl (hb hby d6_45)
  have N51 := Fr.snoc X50 N32 g1
  have f52 := f33.wr W50
  have f53 := f34.other W50 (Or.inr (slot_ne (Or.inl (hw _ (List.mem_of_getElem? (i := 22) rfl))) (Or.inl (hw _ (List.mem_of_getElem? (i := 40) rfl))) (by decide) (t := .int) (t' := .int) (by decide) (by decide)))
  have f54 := f35.other W50 (Or.inr (slot_ne (Or.inl (hw _ (List.mem_of_getElem? (i := 26) rfl))) (Or.inl (hw _ (List.mem_of_getElem? (i := 40) rfl))) (by decide) (t := (.array (.object "java/lang/Object"))) (t' := .int) (by decide) (by decide)))
  have f55 := f36.same W50
  have f56 := f37.other W50 nea
  have f57 := f38.wr W50
  have f58 := f39.wr W50
  have f59 := f40.wr W50
  have f60 := f41.wr W50
  have f61 := f42.wr W50
  have f62 := f43.wr W50
  have f63 := f44.other W50 (Ne.symm ne23)
  have f64 := f45.wr W50
  have z65 := Nat.le_trans z46 (Keep.of_wr W50).1
  have K66 := K47.wr W50 (Or.inl (List.mem_of_getElem? (i := 0) rfl))
  refine Go.via (S' := T50.setTop (mkF m 48 #[.val (.ref a1), .val (.ref e_)] [(.int (4 : Int32)), (.ref r8)])) (fun _ k => st50 _ k) ?_
  have fs67 : Fld Z h50 a1 "com/example/tidegraph/tidegraph/graph/ElementList" "size" "I" (.int (5 : Int32)) := f55
  refine Go.via (S' := T50.setTop (mkF m 49 #[.val (.ref a1), .val (.ref e_)] [(.ref e_), (.int (4 : Int32)), (.ref r8)])) (fun _ k => XS.aloadN X50.here hx rfl (hb hby d6_48) rfl rfl k) ?_
  obtain ⟨c68, Ar68, q68, S68, M68, H68, G68⟩ := id f63
  obtain ⟨T68, h68, X68, e68, W68, st68⟩ := stR X50 hx hZ e50 Ar68 (j := (4 : Int32)) (inb_of S68 ⟨by decide, by decide⟩) rfl (Sto.ofV Ar68 q68 Or8 (Ins.of_exa f58 (hw _ (List.mem_of_getElem? (i := 68) rfl)))) (g := (mkF m 49 #[.val (.ref a1), .val (.ref e_)] [(.ref e_), (.int (4 : Int32)), (.ref r8)])) rfl rfl (hb hby d6_49)
  have V69 : Arv Z h68 r8 kk8 (.object "java/lang/Object") (8 : Int32) [(.ref r0), (.ref r1), (.ref r2), (.ref r3), (.ref e_), .null, .null, .null] .null := Arv.set Ar68 q68 S68 M68 H68 G68 rfl W68 4 rfl (Nat.le_of_ble_eq_true rfl)
  have N70 := Fr.snoc X68 N51 u18
  have f71 := f52.wr W68
  have f72 := f53.other W68 (Or.inl ne23)
  have f73 := f54.other W68 (Or.inl ne23)
  have f74 := fs67.other W68 (Or.inl ne23)
  have f75 := f56.other W68 ne24
  have f76 := f57.wr W68
  have f77 := f58.wr W68
  have f78 := f59.wr W68
  have f79 := f60.wr W68
  have f80 := f61.wr W68
  have f81 := f62.wr W68
  have f82 := f64.wr W68
  have z83 := Nat.le_trans z65 (Keep.of_wr W68).1
  have K84 := K66.wr W68 (Or.inr g30)
  refine Go.via (S' := T68.setTop (mkF m 50 #[.val (.ref a1), .val (.ref e_)] [])) (fun _ k => st68 _ k) ?_
  refine Go.via (S' := T68.setTop (mkF m 51 #[.val (.ref a1), .val (.ref e_)] [(.ref a1)])) (fun _ k => XS.aloadN X68.here hx rfl (hb hby d6_50) rfl rfl k) ?_
  refine Go.via (S' := T68.setTop (mkF m 52 #[.val (.ref a1), .val (.ref e_)] [(.ref a1), (.ref a1)])) (fun _ k => XS.dup X68.here hx rfl (hb hby d6_51) rfl rfl k) ?_
  obtain ⟨T85, X85, e85, st85⟩ := getF X68 hx hZ hown (host := "") (Or.inl (hw _ (List.mem_of_getElem? (i := 69) rfl))) (Via.of (hw _ (List.mem_of_getElem? (i := 70) rfl))) e68 f72 (g := (mkF m 52 #[.val (.ref a1), .val (.ref e_)] [(.ref a1), (.ref a1)])) rfl rfl (hb hby d6_52)
  refine Go.via (S' := T85.setTop (mkF m 55 #[.val (.ref a1), .val (.ref e_)] [(.int mc), (.ref a1)])) (fun _ k => st85 _ k) ?_
  refine Go.via (S' := T85.setTop (mkF m 56 #[.val (.ref a1), .val (.ref e_)] [(.int (1 : Int32)), (.int mc), (.ref a1)])) (fun _ k => XS.iconst X85.here hx rfl (hb hby d6_55) k) ?_
  refine Go.via (S' := T85.setTop (mkF m 57 #[.val (.ref a1), .val (.ref e_)] [(.int (mc + (1 : Int32))), (.ref a1)])) (fun _ k => XS.iadd X85.here hx rfl (hb hby d6_56) rfl k) ?_
  obtain ⟨T86, h86, X86, e86, W86, st86⟩ := putF X85 hx hZ hown (host := "") (Or.inl (hw _ (List.mem_of_getElem? (i := 69) rfl))) (Via.of (hw _ (List.mem_of_getElem? (i := 70) rfl))) e85 f72 f71 (Or.inl (hw _ (List.mem_of_getElem? (i := 22) rfl))) (hw _ (List.mem_of_getElem? (i := 2) rfl)) (ty := .int) (by decide) rfl rfl (g := (mkF m 57 #[.val (.ref a1), .val (.ref e_)] [(.int (mc + (1 : Int32))), (.ref a1)])) rfl rfl (hb hby d6_57)
  have N87 := Fr.snoc X86 N70 g1
  have f88 := f71.wr W86
  have f89 := f72.same W86
  have f90 := f73.other W86 (Or.inr (slot_ne (Or.inl (hw _ (List.mem_of_getElem? (i := 26) rfl))) (Or.inl (hw _ (List.mem_of_getElem? (i := 22) rfl))) (by decide) (t := (.array (.object "java/lang/Object"))) (t' := .int) (by decide) (by decide)))
  have f91 := f74.other W86 (Or.inr (slot_ne (Or.inl (hw _ (List.mem_of_getElem? (i := 40) rfl))) (Or.inl (hw _ (List.mem_of_getElem? (i := 22) rfl))) (by decide) (t := .int) (t' := .int) (by decide) (by decide)))
  have f92 := f75.other W86 nea
  have f93 := f76.wr W86
  have f94 := f77.wr W86
  have f95 := f78.wr W86
  have f96 := f79.wr W86
  have f97 := f80.wr W86
  have f98 := f81.wr W86
  have f99 := f82.wr W86
  have f100 := V69.other W86 (Ne.symm ne23)
  have z101 := Nat.le_trans z83 (Keep.of_wr W86).1
  have K102 := K84.wr W86 (Or.inl (List.mem_of_getElem? (i := 0) rfl))
  refine Go.via (S' := T86.setTop (mkF m 60 #[.val (.ref a1), .val (.ref e_)] [])) (fun _ k => st86 _ k) ?_
  exact Go.retV X86 hx (BodyLoose.notSynchronized Bd) Bd.returns (hb hby d6_60) (by rw [e86]; exact ⟨rfl, N87, K102, _, _, u18, g30, f99, Or8, f89, f90, f91, f100⟩) (by decide) (by decide)
theorem ef_6m5 (m : MethodId) (x0 : Addr) (x1 : Addr) : entryFrame m #[(.ref x0), (.ref x1)] 2 = mkF m 0 #[.val (.ref x0), .val (.ref x1)] [] := by first | (simp [entryFrame, mkF, argsToLocals, Value.category]; done) | rfl
def Q6m5 (Z : State) (a1 : Addr) (e_ : Addr) (ar : Addr) (k : ClassId) (mc : Int32) (mr : Addr) (r0 : Addr) (r1 : Addr) (r2 : Addr) (r3 : Addr) (r4 : Addr) (h0 : Heap) (n0 : Nat) (v : Option Value) (h : Heap) (L : List Loc) : Prop := v = none ∧ Fr n0 L ∧ Keep h0 h [a1, ar] ∧ Fld Z h a1 "java/util/AbstractList" "modCount" "I" (.int (mc + 1)) ∧ Fld Z h a1 "com/example/tidegraph/tidegraph/graph/ElementList" "elements" "[Ljava/lang/Object;" (.ref ar) ∧ Fld Z h a1 "com/example/tidegraph/tidegraph/graph/ElementList" "size" "I" (.int (6 : Int32)) ∧ Arv Z h ar k (.object "java/lang/Object") (8 : Int32) [(.ref r0), (.ref r1), (.ref r2), (.ref r3), (.ref r4), (.ref e_), .null, .null] .null
set_option maxRecDepth 65536 in
set_option maxHeartbeats 40000000 in
theorem rm6m5 (l : Launch) (Z : State) (a0 : Array Value) (hw : ∀ d ∈ tables_1, d.before a0 Z = true) (ws : List Jvm.Cond) (a1 : Addr) (e_ : Addr) (ar : Addr) (k : ClassId) (mc : Int32) (mr : Addr) (r0 : Addr) (r1 : Addr) (r2 : Addr) (r3 : Addr) (r4 : Addr) (h0 : Heap) (n0 : Nat) (Z0 : n0 ≤ h0.size) (E1 : Exa Z h0 a1 "com/example/tidegraph/tidegraph/graph/ElementList") (Fm : Fld Z h0 a1 "java/util/AbstractList" "modCount" "I" (.int mc)) (Fe : Fld Z h0 a1 "com/example/tidegraph/tidegraph/graph/ElementList" "elements" "[Ljava/lang/Object;" (.ref ar)) (Fs : Fld Z h0 a1 "com/example/tidegraph/tidegraph/graph/ElementList" "size" "I" (.int (5 : Int32))) (g1 : n0 ≤ a1) (V1 : Arv Z h0 ar k (.object "java/lang/Object") (8 : Int32) [(.ref r0), (.ref r1), (.ref r2), (.ref r3), (.ref r4), .null, .null, .null] .null) (Ea : Exa Z h0 ar "[Ljava/lang/Object;") (nea : ar ≠ a1) (Ee : Exa Z h0 e_ "java/lang/Integer") (ne1 : e_ ≠ a1) (ne2 : e_ ≠ ar) (Ov : Ovr Z k "java/lang/Object") (g2 : n0 ≤ ar) :
    MetFree l (⟨"com/example/tidegraph/tidegraph/graph/ElementList", "append", "(Ljava/lang/Object;)V"⟩ : MethodName) (head1 (Jvm.Cond.code (⟨"com/example/tidegraph/tidegraph/graph/ElementList", "append", "(Ljava/lang/Object;)V"⟩ : MethodName) prog_8_method_2_code 2 none :: ws) ({ frames := 0, cells := 0, slots := 0, locals := 0 } : Room)) (fun a U => a = #[(.ref a1), (.ref e_)] ∧ Z.Warmed39 U.vm ∧ U.heap = h0) (fun _ _ _ _ _ => True) (fun _ U o U' => ∃ v L, o = .returned v ∧ Q6m5 Z a1 e_ ar k mc mr r0 r1 r2 r3 r4 h0 n0 v U'.heap L ∧ FrameEnd U o U' L ({ frames := 0, cells := 0, slots := 0, locals := 0 } : Room).cells ({ frames := 0, cells := 0, slots := 0, locals := 0 } : Room).slots) := by
  refine MetFree.of_bodySF (plainFor_of_name pn_4) hisR ?_
  intro p e s m args below meth c s₁ Bd hml0 hP hK
  obtain ⟨rfl, hZ, hh⟩ := hP
  have hx := Bd.exec
  have hby := Bd.bytes
  have hml : c.maxLocals = 2 := hml0
  have hown : s.vm.findClass "com/example/tidegraph/tidegraph/graph/ElementList" = some m.cls := findClass_of_methodNamed Bd.named
  have hnm := (name_of_methodNamed Bd.named Bd.method).1
  have X0 : Stand p l e ({ frames := 0, cells := 0, slots := 0, locals := 0 } : Room) s m #[(.ref a1), (.ref e_)] below meth c s₁ [] 0 0 := Stand.of_body Bd
  have e0 : s₁.heap = h0 := by rw [← hh, Bd.state]; rfl
  have N0 := Fr.nil n0
  show Go p e below s (Q6m5 Z a1 e_ ar k mc mr r0 r1 r2 r3 r4 h0 n0) ({ frames := 0, cells := 0, slots := 0, locals := 0 } : Room).cells ({ frames := 0, cells := 0, slots := 0, locals := 0 } : Room).slots _
  refine Go.via (S' := s₁.setTop (mkF m 0 #[.val (.ref a1), .val (.ref e_)] [])) (fun t k => castTop (ef_6m5 m a1 e_) k) ?_
  refine Go.via (S' := s₁.setTop (mkF m 1 #[.val (.ref a1), .val (.ref e_)] [(.ref a1)])) (fun _ k => XS.aloadN X0.here hx rfl (hb hby d6_0) rfl rfl k) ?_
  obtain ⟨T1, X1, e1, st1⟩ := getF X0 hx hZ hown (host := "") (Or.inl (hw _ (List.mem_of_getElem? (i := 39) rfl))) Via.refl e0 Fs (g := (mkF m 1 #[.val (.ref a1), .val (.ref e_)] [(.ref a1)])) rfl rfl (hb hby d6_1)
  refine Go.via (S' := T1.setTop (mkF m 4 #[.val (.ref a1), .val (.ref e_)] [(.int (5 : Int32))])) (fun _ k => st1 _ k) ?_
  refine Go.via (S' := T1.setTop (mkF m 5 #[.val (.ref a1), .val (.ref e_)] [(.ref a1), (.int (5 : Int32))])) (fun _ k => XS.aloadN X1.here hx rfl (hb hby d6_4) rfl rfl k) ?_
  obtain ⟨T2, X2, e2, st2⟩ := getF X1 hx hZ hown (host := "") (Or.inl (hw _ (List.mem_of_getElem? (i := 25) rfl))) Via.refl e1 Fe (g := (mkF m 5 #[.val (.ref a1), .val (.ref e_)] [(.ref a1), (.int (5 : Int32))])) rfl rfl (hb hby d6_5)
  refine Go.via (S' := T2.setTop (mkF m 8 #[.val (.ref a1), .val (.ref e_)] [(.ref ar), (.int (5 : Int32))])) (fun _ k => st2 _ k) ?_
  obtain ⟨c3, Ar3, -, S3, M3, -, -⟩ := id V1
  refine Go.via (S' := T2.setTop (mkF m 9 #[.val (.ref a1), .val (.ref e_)] [(.int c3.slots.size.toInt32), (.int (5 : Int32))])) (fun _ k => X2.arraylength hx (by rw [e2]; exact Ar3.1) (State.isArrayOf_alike hZ.alike Ar3.2.1) (g := (mkF m 8 #[.val (.ref a1), .val (.ref e_)] [(.ref ar), (.int (5 : Int32))])) rfl rfl (hb hby d6_8) _ k) ?_
  rw [len_of S3 M3]
  refine Go.via (S' := T2.setTop (mkF m 33 #[.val (.ref a1), .val (.ref e_)] [])) (fun _ k => XS.icmpYes X2.here hx rfl (pc0 := 9) (pc' := 33) rfl (hb hby d6_9) rfl (feq (by decide)).2 (by decide) (by decide) k) ?_
  refine Go.via (S' := T2.setTop (mkF m 34 #[.val (.ref a1), .val (.ref e_)] [(.ref a1)])) (fun _ k => XS.aloadN X2.here hx rfl (hb hby d6_33) rfl rfl k) ?_
  obtain ⟨T4, X4, e4, st4⟩ := getF X2 hx hZ hown (host := "") (Or.inl (hw _ (List.mem_of_getElem? (i := 25) rfl))) Via.refl e2 Fe (g := (mkF m 34 #[.val (.ref a1), .val (.ref e_)] [(.ref a1)])) rfl rfl (hb hby d6_34)
  refine Go.via (S' := T4.setTop (mkF m 37 #[.val (.ref a1), .val (.ref e_)] [(.ref ar)])) (fun _ k => st4 _ k) ?_
  refine Go.via (S' := T4.setTop (mkF m 38 #[.val (.ref a1), .val (.ref e_)] [(.ref a1), (.ref ar)])) (fun _ k => XS.aloadN X4.here hx rfl (hb hby d6_37) rfl rfl k) ?_
  refine Go.via (S' := T4.setTop (mkF m 39 #[.val (.ref a1), .val (.ref e_)] [(.ref a1), (.ref a1), (.ref ar)])) (fun _ k => XS.dup X4.here hx rfl (hb hby d6_38) rfl rfl k) ?_
  obtain ⟨T5, X5, e5, st5⟩ := getF X4 hx hZ hown (host := "") (Or.inl (hw _ (List.mem_of_getElem? (i := 39) rfl))) Via.refl e4 Fs (g := (mkF m 39 #[.val (.ref a1), .val (.ref e_)] [(.ref a1), (.ref a1), (.ref ar)])) rfl rfl (hb hby d6_39)
  refine Go.via (S' := T5.setTop (mkF m 42 #[.val (.ref a1), .val (.ref e_)] [(.int (5 : Int32)), (.ref a1), (.ref ar)])) (fun _ k => st5 _ k) ?_
  refine Go.via (S' := T5.setTop (mkF m 43 #[.val (.ref a1), .val (.ref e_)] [(.int (5 : Int32)), (.ref a1), (.int (5 : Int32)), (.ref ar)])) (fun _ k => XS.dupX1 X5.here hx rfl (hb hby d6_42) rfl rfl rfl k) ?_
  refine Go.via (S' := T5.setTop (mkF m 44 #[.val (.ref a1), .val (.ref e_)] [(.int (1 : Int32)), (.int (5 : Int32)), (.ref a1), (.int (5 : Int32)), (.ref ar)])) (fun _ k => XS.iconst X5.here hx rfl (hb hby d6_43) k) ?_
  refine Go.via (S' := T5.setTop (mkF m 45 #[.val (.ref a1), .val (.ref e_)] [(.int ((5 : Int32) + (1 : Int32))), (.ref a1), (.int (5 : Int32)), (.ref ar)])) (fun _ k => XS.iadd X5.here hx rfl (hb hby d6_44) rfl k) ?_
  obtain ⟨T6, h6, X6, e6, W6, st6⟩ := putF X5 hx hZ hown (host := "") (Or.inl (hw _ (List.mem_of_getElem? (i := 39) rfl))) Via.refl e5 Fs E1 (Or.inl (hw _ (List.mem_of_getElem? (i := 40) rfl))) (hw _ (List.mem_of_getElem? (i := 2) rfl)) (ty := .int) (by decide) rfl rfl (g := (mkF m 45 #[.val (.ref a1), .val (.ref e_)] [(.int ((5 : Int32) + (1 : Int32))), (.ref a1), (.int (5 : Int32)), (.ref ar)])) rfl rfl (hb hby d6_45)
  have N7 := Fr.snoc X6 N0 g1
  have f8 := E1.wr W6
  have f9 := Fm.other W6 (Or.inr (slot_ne (Or.inl (hw _ (List.mem_of_getElem? (i := 22) rfl))) (Or.inl (hw _ (List.mem_of_getElem? (i := 40) rfl))) (by decide) (t := .int) (t' := .int) (by decide) (by decide)))
  have f10 := Fe.other W6 (Or.inr (slot_ne (Or.inl (hw _ (List.mem_of_getElem? (i := 26) rfl))) (Or.inl (hw _ (List.mem_of_getElem? (i := 40) rfl))) (by decide) (t := (.array (.object "java/lang/Object"))) (t' := .int) (by decide) (by decide)))
  have f11 := Fs.same W6
  have f12 := V1.other W6 nea
  have f13 := Ea.wr W6
  have f14 := Ee.wr W6
  have z15 := Nat.le_trans Z0 (Keep.of_wr W6).1
  have K16 := (Keep.refl h0 [a1, ar]).wr W6 (Or.inl (List.mem_of_getElem? (i := 0) rfl))
  refine Go.via (S' := T6.setTop (mkF m 48 #[.val (.ref a1), .val (.ref e_)] [(.int (5 : Int32)), (.ref ar)])) (fun _ k => st6 _ k) ?_
  have fs17 : Fld Z h6 a1 "com/example/tidegraph/tidegraph/graph/ElementList" "size" "I" (.int (6 : Int32)) := f11
  refine Go.via (S' := T6.setTop (mkF m 49 #[.val (.ref a1), .val (.ref e_)] [(.ref e_), (.int (5 : Int32)), (.ref ar)])) (fun _ k => XS.aloadN X6.here hx rfl (hb hby d6_48) rfl rfl k) ?_
  obtain ⟨c18, Ar18, q18, S18, M18, H18, G18⟩ := id f12
  obtain ⟨T18, h18, X18, e18, W18, st18⟩ := stR X6 hx hZ e6 Ar18 (j := (5 : Int32)) (inb_of S18 ⟨by decide, by decide⟩) rfl (Sto.ofV Ar18 q18 Ov (Ins.of_exa f14 (hw _ (List.mem_of_getElem? (i := 68) rfl)))) (g := (mkF m 49 #[.val (.ref a1), .val (.ref e_)] [(.ref e_), (.int (5 : Int32)), (.ref ar)])) rfl rfl (hb hby d6_49)
  have V19 : Arv Z h18 ar k (.object "java/lang/Object") (8 : Int32) [(.ref r0), (.ref r1), (.ref r2), (.ref r3), (.ref r4), (.ref e_), .null, .null] .null := Arv.set Ar18 q18 S18 M18 H18 G18 rfl W18 5 rfl (Nat.le_of_ble_eq_true rfl)
  have N20 := Fr.snoc X18 N7 g2
  have f21 := f8.wr W18
  have f22 := f9.other W18 (Or.inl (Ne.symm nea))
  have f23 := f10.other W18 (Or.inl (Ne.symm nea))
  have f24 := fs17.other W18 (Or.inl (Ne.symm nea))
  have f25 := f13.wr W18
  have f26 := f14.wr W18
  have z27 := Nat.le_trans z15 (Keep.of_wr W18).1
  have K28 := K16.wr W18 (Or.inl (List.mem_of_getElem? (i := 1) rfl))
  refine Go.via (S' := T18.setTop (mkF m 50 #[.val (.ref a1), .val (.ref e_)] [])) (fun _ k => st18 _ k) ?_
  refine Go.via (S' := T18.setTop (mkF m 51 #[.val (.ref a1), .val (.ref e_)] [(.ref a1)])) (fun _ k => XS.aloadN X18.here hx rfl (hb hby d6_50) rfl rfl k) ?_
  refine Go.via (S' := T18.setTop (mkF m 52 #[.val (.ref a1), .val (.ref e_)] [(.ref a1), (.ref a1)])) (fun _ k => XS.dup X18.here hx rfl (hb hby d6_51) rfl rfl k) ?_
  obtain ⟨T29, X29, e29, st29⟩ := getF X18 hx hZ hown (host := "") (Or.inl (hw _ (List.mem_of_getElem? (i := 69) rfl))) (Via.of (hw _ (List.mem_of_getElem? (i := 70) rfl))) e18 f22 (g := (mkF m 52 #[.val (.ref a1), .val (.ref e_)] [(.ref a1), (.ref a1)])) rfl rfl (hb hby d6_52)
  refine Go.via (S' := T29.setTop (mkF m 55 #[.val (.ref a1), .val (.ref e_)] [(.int mc), (.ref a1)])) (fun _ k => st29 _ k) ?_
  refine Go.via (S' := T29.setTop (mkF m 56 #[.val (.ref a1), .val (.ref e_)] [(.int (1 : Int32)), (.int mc), (.ref a1)])) (fun _ k => XS.iconst X29.here hx rfl (hb hby d6_55) k) ?_
  refine Go.via (S' := T29.setTop (mkF m 57 #[.val (.ref a1), .val (.ref e_)] [(.int (mc + (1 : Int32))), (.ref a1)])) (fun _ k => XS.iadd X29.here hx rfl (hb hby d6_56) rfl k) ?_
  obtain ⟨T30, h30, X30, e30, W30, st30⟩ := putF X29 hx hZ hown (host := "") (Or.inl (hw _ (List.mem_of_getElem? (i := 69) rfl))) (Via.of (hw _ (List.mem_of_getElem? (i := 70) rfl))) e29 f22 f21 (Or.inl (hw _ (List.mem_of_getElem? (i := 22) rfl))) (hw _ (List.mem_of_getElem? (i := 2) rfl)) (ty := .int) (by decide) rfl rfl (g := (mkF m 57 #[.val (.ref a1), .val (.ref e_)] [(.int (mc + (1 : Int32))), (.ref a1)])) rfl rfl (hb hby d6_57)
  have N31 := Fr.snoc X30 N20 g1
  have f32 := f21.wr W30
  have f33 := f22.same W30
  have f34 := f23.other W30 (Or.inr (slot_ne (Or.inl (hw _ (List.mem_of_getElem? (i := 26) rfl))) (Or.inl (hw _ (List.mem_of_getElem? (i := 22) rfl))) (by decide) (t := (.array (.object "java/lang/Object"))) (t' := .int) (by decide) (by decide)))
  have f35 := f24.other W30 (Or.inr (slot_ne (Or.inl (hw _ (List.mem_of_getElem? (i := 40) rfl))) (Or.inl (hw _ (List.mem_of_getElem? (i := 22) rfl))) (by decide) (t := .int) (t' := .int) (by decide) (by decide)))
  have f36 := f25.wr W30
  have f37 := f26.wr W30
  have f38 := V19.other W30 nea
  have z39 := Nat.le_trans z27 (Keep.of_wr W30).1
  have K40 := K28.wr W30 (Or.inl (List.mem_of_getElem? (i := 0) rfl))
  refine Go.via (S' := T30.setTop (mkF m 60 #[.val (.ref a1), .val (.ref e_)] [])) (fun _ k => st30 _ k) ?_
  exact Go.retV X30 hx (BodyLoose.notSynchronized Bd) Bd.returns (hb hby d6_60) (by rw [e30]; exact ⟨rfl, N31, K40, f33, f34, f35, f38⟩) (by decide) (by decide)
theorem d12_0 : decode prog_8_method_3_code 0 = .ok (.iload_n 1, 1) := by decide +kernel
theorem d12_1 : decode prog_8_method_3_code 1 = .ok (.aload_n 0, 1) := by decide +kernel
theorem d12_2 : decode prog_8_method_3_code 2 = .ok (.getfield 16, 3) := by decide +kernel
theorem d12_5 : decode prog_8_method_3_code 5 = .ok (.if_icmp .lt 21, 3) := by decide +kernel
theorem d12_26 : decode prog_8_method_3_code 26 = .ok (.aload_n 0, 1) := by decide +kernel
theorem d12_27 : decode prog_8_method_3_code 27 = .ok (.getfield 13, 3) := by decide +kernel
theorem d12_30 : decode prog_8_method_3_code 30 = .ok (.iload_n 1, 1) := by decide +kernel
theorem d12_31 : decode prog_8_method_3_code 31 = .ok (.aaload, 1) := by decide +kernel
theorem d12_32 : decode prog_8_method_3_code 32 = .ok (.areturn, 1) := by decide +kernel
theorem ef_12 (m : MethodId) (x0 : Addr) (x1 : Int32) : entryFrame m #[(.ref x0), (.int x1)] 2 = mkF m 0 #[.val (.ref x0), .val (.int x1)] [] := by first | (simp [entryFrame, mkF, argsToLocals, Value.category]; done) | rfl
def Q12 (Z : State) (a1 : Addr) (p2 : Int32) (ar : Addr) (k : ClassId) (z : Int32) (vs : List Value) (sz : Int32) (r : Addr) (h0 : Heap) (n0 : Nat) (v : Option Value) (h : Heap) (L : List Loc) : Prop := v = some (.ref r) ∧ Fr n0 L ∧ h = h0
set_option maxRecDepth 65536 in
set_option maxHeartbeats 40000000 in
theorem rm12 (l : Launch) (Z : State) (a0 : Array Value) (hw : ∀ d ∈ tables_1, d.before a0 Z = true) (ws : List Jvm.Cond) (a1 : Addr) (p2 : Int32) (ar : Addr) (k : ClassId) (z : Int32) (vs : List Value) (sz : Int32) (r : Addr) (h0 : Heap) (n0 : Nat) (Z0 : n0 ≤ h0.size) (Fe : Fld Z h0 a1 "com/example/tidegraph/tidegraph/graph/ElementList" "elements" "[Ljava/lang/Object;" (.ref ar)) (Fs : Fld Z h0 a1 "com/example/tidegraph/tidegraph/graph/ElementList" "size" "I" (.int sz)) (V1 : Arv Z h0 ar k (.object "java/lang/Object") z vs .null) (hlt : p2 < sz) (hj2 : ¬ p2 < 0 ∧ p2 < z) (u : vs.getD p2.toNatClampNeg .null = .ref r) :
    MetFree l (⟨"com/example/tidegraph/tidegraph/graph/ElementList", "get", "(I)Ljava/lang/Object;"⟩ : MethodName) (head1 (Jvm.Cond.code (⟨"com/example/tidegraph/tidegraph/graph/ElementList", "get", "(I)Ljava/lang/Object;"⟩ : MethodName) prog_8_method_3_code 2 (some (.object "java/lang/Object")) :: ws) ({ frames := 0, cells := 0, slots := 0, locals := 0 } : Room)) (fun a U => a = #[(.ref a1), (.int p2)] ∧ Z.Warmed39 U.vm ∧ U.heap = h0) (fun _ _ _ _ _ => True) (fun _ U o U' => ∃ v L, o = .returned v ∧ Q12 Z a1 p2 ar k z vs sz r h0 n0 v U'.heap L ∧ FrameEnd U o U' L ({ frames := 0, cells := 0, slots := 0, locals := 0 } : Room).cells ({ frames := 0, cells := 0, slots := 0, locals := 0 } : Room).slots) := by
  refine MetFree.of_bodySF (plainFor_of_name pn_4) hisR ?_
  intro p e s m args below meth c s₁ Bd hml0 hP hK
  obtain ⟨rfl, hZ, hh⟩ := hP
  have hx := Bd.exec
  have hby := Bd.bytes
  have hml : c.maxLocals = 2 := hml0
  have hown : s.vm.findClass "com/example/tidegraph/tidegraph/graph/ElementList" = some m.cls := findClass_of_methodNamed Bd.named
  have hnm := (name_of_methodNamed Bd.named Bd.method).1
  have X0 : Stand p l e ({ frames := 0, cells := 0, slots := 0, locals := 0 } : Room) s m #[(.ref a1), (.int p2)] below meth c s₁ [] 0 0 := Stand.of_body Bd
  have e0 : s₁.heap = h0 := by rw [← hh, Bd.state]; rfl
  have N0 := Fr.nil n0
  show Go p e below s (Q12 Z a1 p2 ar k z vs sz r h0 n0) ({ frames := 0, cells := 0, slots := 0, locals := 0 } : Room).cells ({ frames := 0, cells := 0, slots := 0, locals := 0 } : Room).slots _
  refine Go.via (S' := s₁.setTop (mkF m 0 #[.val (.ref a1), .val (.int p2)] [])) (fun t k => castTop (ef_12 m a1 p2) k) ?_
  refine Go.via (S' := s₁.setTop (mkF m 1 #[.val (.ref a1), .val (.int p2)] [(.int p2)])) (fun _ k => XS.iloadN X0.here hx rfl (hb hby d12_0) rfl k) ?_
  refine Go.via (S' := s₁.setTop (mkF m 2 #[.val (.ref a1), .val (.int p2)] [(.ref a1), (.int p2)])) (fun _ k => XS.aloadN X0.here hx rfl (hb hby d12_1) rfl rfl k) ?_
  obtain ⟨T1, X1, e1, st1⟩ := getF X0 hx hZ hown (host := "") (Or.inl (hw _ (List.mem_of_getElem? (i := 39) rfl))) Via.refl e0 Fs (g := (mkF m 2 #[.val (.ref a1), .val (.int p2)] [(.ref a1), (.int p2)])) rfl rfl (hb hby d12_2)
  refine Go.via (S' := T1.setTop (mkF m 5 #[.val (.ref a1), .val (.int p2)] [(.int sz), (.int p2)])) (fun _ k => st1 _ k) ?_
  refine Go.via (S' := T1.setTop (mkF m 26 #[.val (.ref a1), .val (.int p2)] [])) (fun _ k => XS.icmpYes X1.here hx rfl (pc0 := 5) (pc' := 26) rfl (hb hby d12_5) rfl (tlt hlt).1 (by decide) (by decide) k) ?_
  refine Go.via (S' := T1.setTop (mkF m 27 #[.val (.ref a1), .val (.int p2)] [(.ref a1)])) (fun _ k => XS.aloadN X1.here hx rfl (hb hby d12_26) rfl rfl k) ?_
  obtain ⟨T2, X2, e2, st2⟩ := getF X1 hx hZ hown (host := "") (Or.inl (hw _ (List.mem_of_getElem? (i := 25) rfl))) Via.refl e1 Fe (g := (mkF m 27 #[.val (.ref a1), .val (.int p2)] [(.ref a1)])) rfl rfl (hb hby d12_27)
  refine Go.via (S' := T2.setTop (mkF m 30 #[.val (.ref a1), .val (.int p2)] [(.ref ar)])) (fun _ k => st2 _ k) ?_
  refine Go.via (S' := T2.setTop (mkF m 31 #[.val (.ref a1), .val (.int p2)] [(.int p2), (.ref ar)])) (fun _ k => XS.iloadN X2.here hx rfl (hb hby d12_30) rfl k) ?_
  obtain ⟨c1, Ar1, q1, S1, M1, H1, G1⟩ := id V1
  have in1 := inb_of S1 hj2
  have at1 := H1.at in1 u
  refine Go.via (S' := T2.setTop (mkF m 32 #[.val (.ref a1), .val (.int p2)] [(.ref r)])) (fun _ k => X2.aaload hx (j := p2) (v := .ref r) (by rw [e2]; exact Ar1.1) (State.isArrayOf_alike hZ.alike Ar1.2.1) rfl Ar1.2.2 in1 at1 (g := (mkF m 31 #[.val (.ref a1), .val (.int p2)] [(.int p2), (.ref ar)])) rfl rfl (hb hby d12_31) _ k) ?_
  exact Go.retA X2 hx (BodyLoose.notSynchronized Bd) Bd.returns rfl rfl rfl (hb hby d12_32) (by rw [e2]; exact ⟨rfl, N0, rfl⟩) (by decide) (by decide)
def own_at (i a b c d e f : Int32) : Int32 := if i = 0 then a else if i = 1 then b else if i = 2 then c else if i = 3 then d else if i = 4 then e else f
theorem d11_0 : decode method_3_code 0 = .ok (.iload_n 0, 1) := by decide +kernel
theorem d11_1 : decode method_3_code 1 = .ok (.ifCond .ne 5, 3) := by decide +kernel
theorem d11_4 : decode method_3_code 4 = .ok (.iload_n 1, 1) := by decide +kernel
theorem d11_5 : decode method_3_code 5 = .ok (.ireturn, 1) := by decide +kernel
theorem d11_6 : decode method_3_code 6 = .ok (.iload_n 0, 1) := by decide +kernel
theorem d11_7 : decode method_3_code 7 = .ok (.iconst 1, 1) := by decide +kernel
theorem d11_8 : decode method_3_code 8 = .ok (.if_icmp .ne 5, 3) := by decide +kernel
theorem d11_11 : decode method_3_code 11 = .ok (.iload_n 2, 1) := by decide +kernel
theorem d11_12 : decode method_3_code 12 = .ok (.ireturn, 1) := by decide +kernel
theorem d11_13 : decode method_3_code 13 = .ok (.iload_n 0, 1) := by decide +kernel
theorem d11_14 : decode method_3_code 14 = .ok (.iconst 2, 1) := by decide +kernel
theorem d11_15 : decode method_3_code 15 = .ok (.if_icmp .ne 5, 3) := by decide +kernel
theorem d11_18 : decode method_3_code 18 = .ok (.iload_n 3, 1) := by decide +kernel
theorem d11_19 : decode method_3_code 19 = .ok (.ireturn, 1) := by decide +kernel
theorem d11_20 : decode method_3_code 20 = .ok (.iload_n 0, 1) := by decide +kernel
theorem d11_21 : decode method_3_code 21 = .ok (.iconst 3, 1) := by decide +kernel
theorem d11_22 : decode method_3_code 22 = .ok (.if_icmp .ne 6, 3) := by decide +kernel
theorem d11_25 : decode method_3_code 25 = .ok (.iload 4, 2) := by decide +kernel
theorem d11_27 : decode method_3_code 27 = .ok (.ireturn, 1) := by decide +kernel
theorem d11_28 : decode method_3_code 28 = .ok (.iload_n 0, 1) := by decide +kernel
theorem d11_29 : decode method_3_code 29 = .ok (.iconst 4, 1) := by decide +kernel
theorem d11_30 : decode method_3_code 30 = .ok (.if_icmp .ne 6, 3) := by decide +kernel
theorem d11_33 : decode method_3_code 33 = .ok (.iload 5, 2) := by decide +kernel
theorem d11_35 : decode method_3_code 35 = .ok (.ireturn, 1) := by decide +kernel
theorem d11_36 : decode method_3_code 36 = .ok (.iload 6, 2) := by decide +kernel
theorem d11_38 : decode method_3_code 38 = .ok (.ireturn, 1) := by decide +kernel
theorem pn_6 : plainName "com/example/tidegraph/tidegraph/graph/ElementListGetPinLaw" = true := by first | (simp [plainName, overriddenIn]; done) | decide +kernel
theorem ef_11 (m : MethodId) (x0 : Int32) (x1 : Int32) (x2 : Int32) (x3 : Int32) (x4 : Int32) (x5 : Int32) (x6 : Int32) : entryFrame m #[(.int x0), (.int x1), (.int x2), (.int x3), (.int x4), (.int x5), (.int x6)] 7 = mkF m 0 #[.val (.int x0), .val (.int x1), .val (.int x2), .val (.int x3), .val (.int x4), .val (.int x5), .val (.int x6)] [] := by first | (simp [entryFrame, mkF, argsToLocals, Value.category]; done) | rfl
def Q11 (Z : State) (p1 : Int32) (p2 : Int32) (p3 : Int32) (p4 : Int32) (p5 : Int32) (p6 : Int32) (p7 : Int32) (h0 : Heap) (n0 : Nat) (v : Option Value) (h : Heap) (L : List Loc) : Prop := v = some (.int (own_at p1 p2 p3 p4 p5 p6 p7)) ∧ Fr n0 L ∧ h = h0
set_option maxRecDepth 65536 in
set_option maxHeartbeats 40000000 in
theorem rm11 (l : Launch) (Z : State) (a0 : Array Value) (hw : ∀ d ∈ tables_1, d.before a0 Z = true) (ws : List Jvm.Cond) (p1 : Int32) (p2 : Int32) (p3 : Int32) (p4 : Int32) (p5 : Int32) (p6 : Int32) (p7 : Int32) (h0 : Heap) (n0 : Nat) (Z0 : n0 ≤ h0.size) :
    MetFree l (⟨"com/example/tidegraph/tidegraph/graph/ElementListGetPinLaw", "expectedAt", "(IIIIIII)I"⟩ : MethodName) (head1 (Jvm.Cond.code (⟨"com/example/tidegraph/tidegraph/graph/ElementListGetPinLaw", "expectedAt", "(IIIIIII)I"⟩ : MethodName) method_3_code 7 (some .int) :: ws) ({ frames := 0, cells := 0, slots := 0, locals := 0 } : Room)) (fun a U => a = #[(.int p1), (.int p2), (.int p3), (.int p4), (.int p5), (.int p6), (.int p7)] ∧ Z.Warmed39 U.vm ∧ U.heap = h0) (fun _ _ _ _ _ => True) (fun _ U o U' => ∃ v L, o = .returned v ∧ Q11 Z p1 p2 p3 p4 p5 p6 p7 h0 n0 v U'.heap L ∧ FrameEnd U o U' L ({ frames := 0, cells := 0, slots := 0, locals := 0 } : Room).cells ({ frames := 0, cells := 0, slots := 0, locals := 0 } : Room).slots) := by
  refine MetFree.of_bodySF (plainFor_of_name pn_6) hisR ?_
  intro p e s m args below meth c s₁ Bd hml0 hP hK
  obtain ⟨rfl, hZ, hh⟩ := hP
  have hx := Bd.exec
  have hby := Bd.bytes
  have hml : c.maxLocals = 7 := hml0
  have hown : s.vm.findClass "com/example/tidegraph/tidegraph/graph/ElementListGetPinLaw" = some m.cls := findClass_of_methodNamed Bd.named
  have hnm := (name_of_methodNamed Bd.named Bd.method).1
  have X0 : Stand p l e ({ frames := 0, cells := 0, slots := 0, locals := 0 } : Room) s m #[(.int p1), (.int p2), (.int p3), (.int p4), (.int p5), (.int p6), (.int p7)] below meth c s₁ [] 0 0 := Stand.of_body Bd
  have e0 : s₁.heap = h0 := by rw [← hh, Bd.state]; rfl
  have N0 := Fr.nil n0
  show Go p e below s (Q11 Z p1 p2 p3 p4 p5 p6 p7 h0 n0) ({ frames := 0, cells := 0, slots := 0, locals := 0 } : Room).cells ({ frames := 0, cells := 0, slots := 0, locals := 0 } : Room).slots _
  refine Go.via (S' := s₁.setTop (mkF m 0 #[.val (.int p1), .val (.int p2), .val (.int p3), .val (.int p4), .val (.int p5), .val (.int p6), .val (.int p7)] [])) (fun t k => castTop (ef_11 m p1 p2 p3 p4 p5 p6 p7) k) ?_
  refine Go.via (S' := s₁.setTop (mkF m 1 #[.val (.int p1), .val (.int p2), .val (.int p3), .val (.int p4), .val (.int p5), .val (.int p6), .val (.int p7)] [(.int p1)])) (fun _ k => XS.iloadN X0.here hx rfl (hb hby d11_0) rfl k) ?_
  rcases Decidable.em (p1 = (0 : Int32)) with hc1 | hc1
  · refine Go.via (S' := s₁.setTop (mkF m 4 #[.val (.int p1), .val (.int p2), .val (.int p3), .val (.int p4), .val (.int p5), .val (.int p6), .val (.int p7)] [])) (fun _ k => XS.ifNo X0.here hx rfl (hb hby d11_1) rfl ((if0 _ _).trans (teq hc1).2) k) ?_
    refine Go.via (S' := s₁.setTop (mkF m 5 #[.val (.int p1), .val (.int p2), .val (.int p3), .val (.int p4), .val (.int p5), .val (.int p6), .val (.int p7)] [(.int p2)])) (fun _ k => XS.iloadN X0.here hx rfl (hb hby d11_4) rfl k) ?_
    exact Go.retI X0 hx (BodyLoose.notSynchronized Bd) Bd.returns (hb hby d11_5) (by rw [e0]; exact ⟨congrArg (fun z => some (Value.int z)) (show p2 = own_at p1 p2 p3 p4 p5 p6 p7 by simp [own_at, hc1]), N0, rfl⟩) (by decide) (by decide)
  · refine Go.via (S' := s₁.setTop (mkF m 6 #[.val (.int p1), .val (.int p2), .val (.int p3), .val (.int p4), .val (.int p5), .val (.int p6), .val (.int p7)] [])) (fun _ k => XS.ifYes X0.here hx rfl (pc0 := 1) (pc' := 6) rfl (hb hby d11_1) rfl ((if0 _ _).trans (feq hc1).2) (by decide) (by decide) k) ?_
    refine Go.via (S' := s₁.setTop (mkF m 7 #[.val (.int p1), .val (.int p2), .val (.int p3), .val (.int p4), .val (.int p5), .val (.int p6), .val (.int p7)] [(.int p1)])) (fun _ k => XS.iloadN X0.here hx rfl (hb hby d11_6) rfl k) ?_
    refine Go.via (S' := s₁.setTop (mkF m 8 #[.val (.int p1), .val (.int p2), .val (.int p3), .val (.int p4), .val (.int p5), .val (.int p6), .val (.int p7)] [(.int (1 : Int32)), (.int p1)])) (fun _ k => XS.iconst X0.here hx rfl (hb hby d11_7) k) ?_
    rcases Decidable.em (p1 = (1 : Int32)) with hc8 | hc8
    · refine Go.via (S' := s₁.setTop (mkF m 11 #[.val (.int p1), .val (.int p2), .val (.int p3), .val (.int p4), .val (.int p5), .val (.int p6), .val (.int p7)] [])) (fun _ k => XS.icmpNo X0.here hx rfl (hb hby d11_8) rfl (teq hc8).2 k) ?_
      refine Go.via (S' := s₁.setTop (mkF m 12 #[.val (.int p1), .val (.int p2), .val (.int p3), .val (.int p4), .val (.int p5), .val (.int p6), .val (.int p7)] [(.int p3)])) (fun _ k => XS.iloadN X0.here hx rfl (hb hby d11_11) rfl k) ?_
      exact Go.retI X0 hx (BodyLoose.notSynchronized Bd) Bd.returns (hb hby d11_12) (by rw [e0]; exact ⟨congrArg (fun z => some (Value.int z)) (show p3 = own_at p1 p2 p3 p4 p5 p6 p7 by simp [own_at, hc1, hc8]), N0, rfl⟩) (by decide) (by decide)
    · refine Go.via (S' := s₁.setTop (mkF m 13 #[.val (.int p1), .val (.int p2), .val (.int p3), .val (.int p4), .val (.int p5), .val (.int p6), .val (.int p7)] [])) (fun _ k => XS.icmpYes X0.here hx rfl (pc0 := 8) (pc' := 13) rfl (hb hby d11_8) rfl (feq hc8).2 (by decide) (by decide) k) ?_
      refine Go.via (S' := s₁.setTop (mkF m 14 #[.val (.int p1), .val (.int p2), .val (.int p3), .val (.int p4), .val (.int p5), .val (.int p6), .val (.int p7)] [(.int p1)])) (fun _ k => XS.iloadN X0.here hx rfl (hb hby d11_13) rfl k) ?_
      refine Go.via (S' := s₁.setTop (mkF m 15 #[.val (.int p1), .val (.int p2), .val (.int p3), .val (.int p4), .val (.int p5), .val (.int p6), .val (.int p7)] [(.int (2 : Int32)), (.int p1)])) (fun _ k => XS.iconst X0.here hx rfl (hb hby d11_14) k) ?_
      rcases Decidable.em (p1 = (2 : Int32)) with hc15 | hc15
      · refine Go.via (S' := s₁.setTop (mkF m 18 #[.val (.int p1), .val (.int p2), .val (.int p3), .val (.int p4), .val (.int p5), .val (.int p6), .val (.int p7)] [])) (fun _ k => XS.icmpNo X0.here hx rfl (hb hby d11_15) rfl (teq hc15).2 k) ?_
        refine Go.via (S' := s₁.setTop (mkF m 19 #[.val (.int p1), .val (.int p2), .val (.int p3), .val (.int p4), .val (.int p5), .val (.int p6), .val (.int p7)] [(.int p4)])) (fun _ k => XS.iloadN X0.here hx rfl (hb hby d11_18) rfl k) ?_
        exact Go.retI X0 hx (BodyLoose.notSynchronized Bd) Bd.returns (hb hby d11_19) (by rw [e0]; exact ⟨congrArg (fun z => some (Value.int z)) (show p4 = own_at p1 p2 p3 p4 p5 p6 p7 by simp [own_at, hc1, hc8, hc15]), N0, rfl⟩) (by decide) (by decide)
      · refine Go.via (S' := s₁.setTop (mkF m 20 #[.val (.int p1), .val (.int p2), .val (.int p3), .val (.int p4), .val (.int p5), .val (.int p6), .val (.int p7)] [])) (fun _ k => XS.icmpYes X0.here hx rfl (pc0 := 15) (pc' := 20) rfl (hb hby d11_15) rfl (feq hc15).2 (by decide) (by decide) k) ?_
        refine Go.via (S' := s₁.setTop (mkF m 21 #[.val (.int p1), .val (.int p2), .val (.int p3), .val (.int p4), .val (.int p5), .val (.int p6), .val (.int p7)] [(.int p1)])) (fun _ k => XS.iloadN X0.here hx rfl (hb hby d11_20) rfl k) ?_
        refine Go.via (S' := s₁.setTop (mkF m 22 #[.val (.int p1), .val (.int p2), .val (.int p3), .val (.int p4), .val (.int p5), .val (.int p6), .val (.int p7)] [(.int (3 : Int32)), (.int p1)])) (fun _ k => XS.iconst X0.here hx rfl (hb hby d11_21) k) ?_
        rcases Decidable.em (p1 = (3 : Int32)) with hc22 | hc22
        · refine Go.via (S' := s₁.setTop (mkF m 25 #[.val (.int p1), .val (.int p2), .val (.int p3), .val (.int p4), .val (.int p5), .val (.int p6), .val (.int p7)] [])) (fun _ k => XS.icmpNo X0.here hx rfl (hb hby d11_22) rfl (teq hc22).2 k) ?_
          refine Go.via (S' := s₁.setTop (mkF m 27 #[.val (.int p1), .val (.int p2), .val (.int p3), .val (.int p4), .val (.int p5), .val (.int p6), .val (.int p7)] [(.int p5)])) (fun _ k => XS.iload X0.here hx rfl (hb hby d11_25) rfl k) ?_
          exact Go.retI X0 hx (BodyLoose.notSynchronized Bd) Bd.returns (hb hby d11_27) (by rw [e0]; exact ⟨congrArg (fun z => some (Value.int z)) (show p5 = own_at p1 p2 p3 p4 p5 p6 p7 by simp [own_at, hc1, hc8, hc15, hc22]), N0, rfl⟩) (by decide) (by decide)
        · refine Go.via (S' := s₁.setTop (mkF m 28 #[.val (.int p1), .val (.int p2), .val (.int p3), .val (.int p4), .val (.int p5), .val (.int p6), .val (.int p7)] [])) (fun _ k => XS.icmpYes X0.here hx rfl (pc0 := 22) (pc' := 28) rfl (hb hby d11_22) rfl (feq hc22).2 (by decide) (by decide) k) ?_
          refine Go.via (S' := s₁.setTop (mkF m 29 #[.val (.int p1), .val (.int p2), .val (.int p3), .val (.int p4), .val (.int p5), .val (.int p6), .val (.int p7)] [(.int p1)])) (fun _ k => XS.iloadN X0.here hx rfl (hb hby d11_28) rfl k) ?_
          refine Go.via (S' := s₁.setTop (mkF m 30 #[.val (.int p1), .val (.int p2), .val (.int p3), .val (.int p4), .val (.int p5), .val (.int p6), .val (.int p7)] [(.int (4 : Int32)), (.int p1)])) (fun _ k => XS.iconst X0.here hx rfl (hb hby d11_29) k) ?_
          rcases Decidable.em (p1 = (4 : Int32)) with hc30 | hc30
          · refine Go.via (S' := s₁.setTop (mkF m 33 #[.val (.int p1), .val (.int p2), .val (.int p3), .val (.int p4), .val (.int p5), .val (.int p6), .val (.int p7)] [])) (fun _ k => XS.icmpNo X0.here hx rfl (hb hby d11_30) rfl (teq hc30).2 k) ?_
            refine Go.via (S' := s₁.setTop (mkF m 35 #[.val (.int p1), .val (.int p2), .val (.int p3), .val (.int p4), .val (.int p5), .val (.int p6), .val (.int p7)] [(.int p6)])) (fun _ k => XS.iload X0.here hx rfl (hb hby d11_33) rfl k) ?_
            exact Go.retI X0 hx (BodyLoose.notSynchronized Bd) Bd.returns (hb hby d11_35) (by rw [e0]; exact ⟨congrArg (fun z => some (Value.int z)) (show p6 = own_at p1 p2 p3 p4 p5 p6 p7 by simp [own_at, hc1, hc8, hc15, hc22, hc30]), N0, rfl⟩) (by decide) (by decide)
          · refine Go.via (S' := s₁.setTop (mkF m 36 #[.val (.int p1), .val (.int p2), .val (.int p3), .val (.int p4), .val (.int p5), .val (.int p6), .val (.int p7)] [])) (fun _ k => XS.icmpYes X0.here hx rfl (pc0 := 30) (pc' := 36) rfl (hb hby d11_30) rfl (feq hc30).2 (by decide) (by decide) k) ?_
            refine Go.via (S' := s₁.setTop (mkF m 38 #[.val (.int p1), .val (.int p2), .val (.int p3), .val (.int p4), .val (.int p5), .val (.int p6), .val (.int p7)] [(.int p7)])) (fun _ k => XS.iload X0.here hx rfl (hb hby d11_36) rfl k) ?_
            exact Go.retI X0 hx (BodyLoose.notSynchronized Bd) Bd.returns (hb hby d11_38) (by rw [e0]; exact ⟨congrArg (fun z => some (Value.int z)) (show p7 = own_at p1 p2 p3 p4 p5 p6 p7 by simp [own_at, hc1, hc8, hc15, hc22, hc30]), N0, rfl⟩) (by decide) (by decide)
theorem own_n6 (x : Int32) : 1 ≤ ((1 : Int32) + ((x &&& (2147483647 : Int32)) % (6 : Int32))).toInt ∧ ((1 : Int32) + ((x &&& (2147483647 : Int32)) % (6 : Int32))).toInt ≤ 6 := by
  have e1 := c_mask x 2147483647 31 (by decide) (by decide)
  have e2 := (c_irem (x &&& 2147483647) 6 6 (by decide)).1 (by omega)
  have e3 := c_iadd 1 ((x &&& 2147483647) % 6)
  have e4 := rng32 ((1 : Int32) + ((x &&& 2147483647) % 6))
  have e5 : (1 : Int32).toInt = 1 := rfl
  omega
theorem own_ix (x n : Int32) (h : 1 ≤ n.toInt) : 0 ≤ ((x &&& (2147483647 : Int32)) % n).toInt ∧ ((x &&& (2147483647 : Int32)) % n).toInt < n.toInt := by
  have e1 := c_mask x 2147483647 31 (by decide) (by decide)
  have e2 := (c_iremV (x &&& 2147483647) n).1 (by omega) (by omega)
  omega
theorem pd_5 : parseMethodDescriptor "(I)Ljava/lang/Integer;" = some ⟨[.int], some (.object "java/lang/Integer")⟩ := by decide +kernel
theorem pd_6 : parseMethodDescriptor "(Ljava/lang/Object;)V" = some ⟨[(.object "java/lang/Object")], none⟩ := by decide +kernel
theorem pd_7 : parseMethodDescriptor "(IIIIIII)I" = some ⟨[.int, .int, .int, .int, .int, .int, .int], some .int⟩ := by decide +kernel
theorem pd_8 : parseMethodDescriptor "(I)Ljava/lang/Object;" = some ⟨[.int], some (.object "java/lang/Object")⟩ := by decide +kernel
theorem pd_9 : parseMethodDescriptor "()I" = some ⟨[], some .int⟩ := by decide +kernel
theorem ef_0 (m : MethodId) (x0 : Int32) (x1 : Int32) (x2 : Int32) (x3 : Int32) (x4 : Int32) (x5 : Int32) : entryFrame m #[(.int x0), (.int x1), (.int x2), (.int x3), (.int x4), (.int x5)] maxLocals = mkF m 0 #[.val (.int x0), .val (.int x1), .val (.int x2), .val (.int x3), .val (.int x4), .val (.int x5), .unset, .unset, .unset, .unset, .unset, .unset, .unset] [] := by first | (simp [entryFrame, mkF, argsToLocals, Value.category, maxLocals]; done) | rfl
def Q0 (Z : State) (p1 : Int32) (p2 : Int32) (p3 : Int32) (p4 : Int32) (p5 : Int32) (p6 : Int32) (ca : Addr) (cc : Cell) (na : Addr) (kn : ClassId) (mr : Addr) (h0 : Heap) (n0 : Nat) (v : Option Value) (h : Heap) (L : List Loc) : Prop := v = some (.int 1) ∧ Fr n0 L
set_option maxRecDepth 65536 in
set_option maxHeartbeats 40000000 in
theorem rm0 (l : Launch) (Z : State) (a0 : Array Value) (hw : ∀ d ∈ tables_1, d.before a0 Z = true) (ws : List Jvm.Cond) (p1 : Int32) (p2 : Int32) (p3 : Int32) (p4 : Int32) (p5 : Int32) (p6 : Int32) (ca : Addr) (cc : Cell) (na : Addr) (kn : ClassId) (mr : Addr) (h0 : Heap) (n0 : Nat) (Z0 : n0 ≤ h0.size) (X00 : Old Z n0 h0) (Sh : Sta Z Z.heap "java/lang/Integer$IntegerCache" "high" "I" (.int 127)) (Sc : Sta Z Z.heap "java/lang/Integer$IntegerCache" "cache" "[Ljava/lang/Integer;" (.ref ca)) (Bc : Bxs Z ca cc "java/lang/Integer" "I" 256 (fun j => .int (j - 128))) (Sn : Sta Z Z.heap "com/example/tidegraph/tidegraph/graph/ElementList" "NONE" "[Ljava/lang/Object;" (.ref na)) (Vn : Arv Z h0 na kn (.object "java/lang/Object") (0 : Int32) [] .null) (En : Exa Z h0 na "[Ljava/lang/Object;") (Mr : Mir Z "[Ljava/lang/Object;" mr) :
    MetFree l x (head1 (Jvm.Cond.code x code maxLocals ret :: ws) room_1) (fun a U => a = #[(.int p1), (.int p2), (.int p3), (.int p4), (.int p5), (.int p6)] ∧ Z.Warmed39 U.vm ∧ U.heap = h0) (fun _ _ _ _ _ => True) (fun _ U o U' => ∃ v L, o = .returned v ∧ Q0 Z p1 p2 p3 p4 p5 p6 ca cc na kn mr h0 n0 v U'.heap L ∧ FrameEnd U o U' L room_1.cells room_1.slots) := by
  refine MetFree.of_bodySF (plainFor_of_name pn_6) hisR ?_
  intro p e s m args below meth c s₁ Bd hml0 hP hK
  obtain ⟨rfl, hZ, hh⟩ := hP
  have hx := Bd.exec
  have hby := Bd.bytes
  have hml : c.maxLocals = 13 := hml0
  have hown : s.vm.findClass "com/example/tidegraph/tidegraph/graph/ElementListGetPinLaw" = some m.cls := findClass_of_methodNamed Bd.named
  have hnm := (name_of_methodNamed Bd.named Bd.method).1
  have X0 : Stand p l e room_1 s m #[(.int p1), (.int p2), (.int p3), (.int p4), (.int p5), (.int p6)] below meth c s₁ [] 0 0 := Stand.of_body Bd
  have e0 : s₁.heap = h0 := by rw [← hh, Bd.state]; rfl
  have N0 := Fr.nil n0
  show Go p e below s (Q0 Z p1 p2 p3 p4 p5 p6 ca cc na kn mr h0 n0) room_1.cells room_1.slots _
  refine Go.via (S' := s₁.setTop (mkF m 0 #[.val (.int p1), .val (.int p2), .val (.int p3), .val (.int p4), .val (.int p5), .val (.int p6), .unset, .unset, .unset, .unset, .unset, .unset, .unset] [])) (fun t k => castTop (ef_0 m p1 p2 p3 p4 p5 p6) k) ?_
  refine Go.via (S' := s₁.setTop (mkF m 1 #[.val (.int p1), .val (.int p2), .val (.int p3), .val (.int p4), .val (.int p5), .val (.int p6), .unset, .unset, .unset, .unset, .unset, .unset, .unset] [(.int (1 : Int32))])) (fun _ k => XS.iconst X0.here hx rfl (hb hby at_0) k) ?_
  refine Go.via (S' := s₁.setTop (mkF m 2 #[.val (.int p1), .val (.int p2), .val (.int p3), .val (.int p4), .val (.int p5), .val (.int p6), .unset, .unset, .unset, .unset, .unset, .unset, .unset] [(.int p1), (.int (1 : Int32))])) (fun _ k => XS.iloadN X0.here hx rfl (hb hby at_1) rfl k) ?_
  refine Go.via (S' := s₁.setTop (mkF m 4 #[.val (.int p1), .val (.int p2), .val (.int p3), .val (.int p4), .val (.int p5), .val (.int p6), .unset, .unset, .unset, .unset, .unset, .unset, .unset] [(.int (2147483647 : Int32)), (.int p1), (.int (1 : Int32))])) (fun _ k => X0.ldcInt hx hown (mvT hZ (hw _ (List.mem_of_getElem? (i := 0) rfl))) (g := (mkF m 2 #[.val (.int p1), .val (.int p2), .val (.int p3), .val (.int p4), .val (.int p5), .val (.int p6), .unset, .unset, .unset, .unset, .unset, .unset, .unset] [(.int p1), (.int (1 : Int32))])) rfl (hb hby at_2) _ k) ?_
  refine Go.via (S' := s₁.setTop (mkF m 5 #[.val (.int p1), .val (.int p2), .val (.int p3), .val (.int p4), .val (.int p5), .val (.int p6), .unset, .unset, .unset, .unset, .unset, .unset, .unset] [(.int (p1 &&& (2147483647 : Int32))), (.int (1 : Int32))])) (fun _ k => XS.iand X0.here hx rfl (hb hby at_4) rfl k) ?_
  refine Go.via (S' := s₁.setTop (mkF m 7 #[.val (.int p1), .val (.int p2), .val (.int p3), .val (.int p4), .val (.int p5), .val (.int p6), .unset, .unset, .unset, .unset, .unset, .unset, .unset] [(.int (6 : Int32)), (.int (p1 &&& (2147483647 : Int32))), (.int (1 : Int32))])) (fun _ k => XS.bipush X0.here hx rfl (hb hby at_5) k) ?_
  refine Go.via (S' := s₁.setTop (mkF m 8 #[.val (.int p1), .val (.int p2), .val (.int p3), .val (.int p4), .val (.int p5), .val (.int p6), .unset, .unset, .unset, .unset, .unset, .unset, .unset] [(.int ((p1 &&& (2147483647 : Int32)) % (6 : Int32))), (.int (1 : Int32))])) (fun _ k => iremM X0 hx rfl (hb hby at_7) rfl (by decide) k) ?_
  refine Go.via (S' := s₁.setTop (mkF m 9 #[.val (.int p1), .val (.int p2), .val (.int p3), .val (.int p4), .val (.int p5), .val (.int p6), .unset, .unset, .unset, .unset, .unset, .unset, .unset] [(.int ((1 : Int32) + ((p1 &&& (2147483647 : Int32)) % (6 : Int32))))])) (fun _ k => XS.iadd X0.here hx rfl (hb hby at_8) rfl k) ?_
  have hN := own_n6 p1
  generalize ((1 : Int32) + ((p1 &&& (2147483647 : Int32)) % (6 : Int32))) = N_ at hN ⊢
  refine Go.via (S' := s₁.setTop (mkF m 11 #[.val (.int p1), .val (.int p2), .val (.int p3), .val (.int p4), .val (.int p5), .val (.int p6), .val (.int N_), .unset, .unset, .unset, .unset, .unset, .unset] [])) (fun _ k => XS.istore X0.here hx rfl (hb hby at_9) rfl (l' := #[.val (.int p1), .val (.int p2), .val (.int p3), .val (.int p4), .val (.int p5), .val (.int p6), .val (.int N_), .unset, .unset, .unset, .unset, .unset, .unset]) rfl k) ?_
  refine Go.via (S' := s₁.setTop (mkF m 12 #[.val (.int p1), .val (.int p2), .val (.int p3), .val (.int p4), .val (.int p5), .val (.int p6), .val (.int N_), .unset, .unset, .unset, .unset, .unset, .unset] [(.int p2)])) (fun _ k => XS.iloadN X0.here hx rfl (hb hby at_11) rfl k) ?_
  refine Go.via (S' := s₁.setTop (mkF m 14 #[.val (.int p1), .val (.int p2), .val (.int p3), .val (.int p4), .val (.int p5), .val (.int p6), .val (.int N_), .unset, .unset, .unset, .unset, .unset, .unset] [(.int (2147483647 : Int32)), (.int p2)])) (fun _ k => X0.ldcInt hx hown (mvT hZ (hw _ (List.mem_of_getElem? (i := 0) rfl))) (g := (mkF m 12 #[.val (.int p1), .val (.int p2), .val (.int p3), .val (.int p4), .val (.int p5), .val (.int p6), .val (.int N_), .unset, .unset, .unset, .unset, .unset, .unset] [(.int p2)])) rfl (hb hby at_12) _ k) ?_
  refine Go.via (S' := s₁.setTop (mkF m 15 #[.val (.int p1), .val (.int p2), .val (.int p3), .val (.int p4), .val (.int p5), .val (.int p6), .val (.int N_), .unset, .unset, .unset, .unset, .unset, .unset] [(.int (p2 &&& (2147483647 : Int32)))])) (fun _ k => XS.iand X0.here hx rfl (hb hby at_14) rfl k) ?_
  refine Go.via (S' := s₁.setTop (mkF m 17 #[.val (.int p1), .val (.int p2), .val (.int p3), .val (.int p4), .val (.int p5), .val (.int p6), .val (.int N_), .unset, .unset, .unset, .unset, .unset, .unset] [(.int N_), (.int (p2 &&& (2147483647 : Int32)))])) (fun _ k => XS.iload X0.here hx rfl (hb hby at_15) rfl k) ?_
  refine Go.via (S' := s₁.setTop (mkF m 18 #[.val (.int p1), .val (.int p2), .val (.int p3), .val (.int p4), .val (.int p5), .val (.int p6), .val (.int N_), .unset, .unset, .unset, .unset, .unset, .unset] [(.int ((p2 &&& (2147483647 : Int32)) % N_))])) (fun _ k => iremM X0 hx rfl (hb hby at_17) rfl (fun q => by rw [q] at hN; revert hN; decide) k) ?_
  have hI := own_ix p2 N_ hN.1
  generalize ((p2 &&& (2147483647 : Int32)) % N_) = I_ at hI ⊢
  refine Go.via (S' := s₁.setTop (mkF m 20 #[.val (.int p1), .val (.int p2), .val (.int p3), .val (.int p4), .val (.int p5), .val (.int p6), .val (.int N_), .val (.int I_), .unset, .unset, .unset, .unset, .unset] [])) (fun _ k => XS.istore X0.here hx rfl (hb hby at_18) rfl (l' := #[.val (.int p1), .val (.int p2), .val (.int p3), .val (.int p4), .val (.int p5), .val (.int p6), .val (.int N_), .val (.int I_), .unset, .unset, .unset, .unset, .unset]) rfl k) ?_
  refine Go.via (S' := s₁.setTop (mkF m 21 #[.val (.int p1), .val (.int p2), .val (.int p3), .val (.int p4), .val (.int p5), .val (.int p6), .val (.int N_), .val (.int I_), .unset, .unset, .unset, .unset, .unset] [(.int p3)])) (fun _ k => XS.iloadN X0.here hx rfl (hb hby at_20) rfl k) ?_
  refine Go.via (S' := s₁.setTop (mkF m 22 #[.val (.int p1), .val (.int p2), .val (.int p3), .val (.int p4), .val (.int p5), .val (.int p6), .val (.int N_), .val (.int I_), .unset, .unset, .unset, .unset, .unset] [(.int (-1 : Int32)), (.int p3)])) (fun _ k => XS.iconst X0.here hx rfl (hb hby at_21) k) ?_
  refine Go.via (S' := s₁.setTop (mkF m 23 #[.val (.int p1), .val (.int p2), .val (.int p3), .val (.int p4), .val (.int p5), .val (.int p6), .val (.int N_), .val (.int I_), .unset, .unset, .unset, .unset, .unset] [(.int (p3 ^^^ (-1 : Int32)))])) (fun _ k => XS.ixor X0.here hx rfl (hb hby at_22) rfl k) ?_
  refine Go.via (S' := s₁.setTop (mkF m 25 #[.val (.int p1), .val (.int p2), .val (.int p3), .val (.int p4), .val (.int p5), .val (.int p6), .val (.int N_), .val (.int I_), .val (.int (p3 ^^^ (-1 : Int32))), .unset, .unset, .unset, .unset] [])) (fun _ k => XS.istore X0.here hx rfl (hb hby at_23) rfl (l' := #[.val (.int p1), .val (.int p2), .val (.int p3), .val (.int p4), .val (.int p5), .val (.int p6), .val (.int N_), .val (.int I_), .val (.int (p3 ^^^ (-1 : Int32))), .unset, .unset, .unset, .unset]) rfl k) ?_
  refine Go.via (S' := s₁.setTop (mkF m 26 #[.val (.int p1), .val (.int p2), .val (.int p3), .val (.int p4), .val (.int p5), .val (.int p6), .val (.int N_), .val (.int I_), .val (.int (p3 ^^^ (-1 : Int32))), .unset, .unset, .unset, .unset] [(.int p4)])) (fun _ k => XS.iloadN X0.here hx rfl (hb hby at_25) rfl k) ?_
  refine Go.via (S' := s₁.setTop (mkF m 27 #[.val (.int p1), .val (.int p2), .val (.int p3), .val (.int p4), .val (.int p5), .val (.int p6), .val (.int N_), .val (.int I_), .val (.int (p3 ^^^ (-1 : Int32))), .unset, .unset, .unset, .unset] [(.int (-1 : Int32)), (.int p4)])) (fun _ k => XS.iconst X0.here hx rfl (hb hby at_26) k) ?_
  refine Go.via (S' := s₁.setTop (mkF m 28 #[.val (.int p1), .val (.int p2), .val (.int p3), .val (.int p4), .val (.int p5), .val (.int p6), .val (.int N_), .val (.int I_), .val (.int (p3 ^^^ (-1 : Int32))), .unset, .unset, .unset, .unset] [(.int (p4 ^^^ (-1 : Int32)))])) (fun _ k => XS.ixor X0.here hx rfl (hb hby at_27) rfl k) ?_
  refine Go.via (S' := s₁.setTop (mkF m 30 #[.val (.int p1), .val (.int p2), .val (.int p3), .val (.int p4), .val (.int p5), .val (.int p6), .val (.int N_), .val (.int I_), .val (.int (p3 ^^^ (-1 : Int32))), .val (.int (p4 ^^^ (-1 : Int32))), .unset, .unset, .unset] [])) (fun _ k => XS.istore X0.here hx rfl (hb hby at_28) rfl (l' := #[.val (.int p1), .val (.int p2), .val (.int p3), .val (.int p4), .val (.int p5), .val (.int p6), .val (.int N_), .val (.int I_), .val (.int (p3 ^^^ (-1 : Int32))), .val (.int (p4 ^^^ (-1 : Int32))), .unset, .unset, .unset]) rfl k) ?_
  obtain ⟨T1, h1, X1, e1, E1, A1, D1, -, st1⟩ := newO X0 hx hZ hown (hw _ (List.mem_of_getElem? (i := 1) rfl)) (hw _ (List.mem_of_getElem? (i := 2) rfl)) (hw _ (List.mem_of_getElem? (i := 3) rfl)) e0 (g := (mkF m 30 #[.val (.int p1), .val (.int p2), .val (.int p3), .val (.int p4), .val (.int p5), .val (.int p6), .val (.int N_), .val (.int I_), .val (.int (p3 ^^^ (-1 : Int32))), .val (.int (p4 ^^^ (-1 : Int32))), .unset, .unset, .unset] [])) rfl (hb hby at_30) (by decide) (by decide)
  obtain ⟨b1, g1⟩ : ∃ z, z = h0.size := ⟨_, rfl⟩
  rw [← g1] at A1 D1 st1
  have ne2 : na ≠ b1 := Nat.ne_of_lt (Nat.lt_of_lt_of_le Vn.lt (Nat.le_of_eq g1.symm))
  have g3 : n0 ≤ b1 := Nat.le_trans Z0 (Nat.le_of_eq g1.symm)
  have f4 := X00.ext E1
  have f5 := Vn.ext E1
  have f6 := En.ext E1
  have z7 := Nat.le_trans Z0 E1.1
  have F8 : Fld Z h1 b1 "java/util/AbstractList" "modCount" "I" (.int (0 : Int32)) := D1 (Or.inl (hw _ (List.mem_of_getElem? (i := 22) rfl))) (ty := .int) (by decide)
  have F9 : Fld Z h1 b1 "com/example/tidegraph/tidegraph/graph/ElementList" "elements" "[Ljava/lang/Object;" .null := D1 (Or.inl (hw _ (List.mem_of_getElem? (i := 26) rfl))) (ty := (.array (.object "java/lang/Object"))) (by decide)
  have F10 : Fld Z h1 b1 "com/example/tidegraph/tidegraph/graph/ElementList" "size" "I" (.int (0 : Int32)) := D1 (Or.inl (hw _ (List.mem_of_getElem? (i := 40) rfl))) (ty := .int) (by decide)
  refine Go.via (S' := T1.setTop (mkF m 33 #[.val (.int p1), .val (.int p2), .val (.int p3), .val (.int p4), .val (.int p5), .val (.int p6), .val (.int N_), .val (.int I_), .val (.int (p3 ^^^ (-1 : Int32))), .val (.int (p4 ^^^ (-1 : Int32))), .unset, .unset, .unset] [(.ref b1)])) (fun _ k => st1 _ k) ?_
  refine Go.via (S' := T1.setTop (mkF m 34 #[.val (.int p1), .val (.int p2), .val (.int p3), .val (.int p4), .val (.int p5), .val (.int p6), .val (.int N_), .val (.int I_), .val (.int (p3 ^^^ (-1 : Int32))), .val (.int (p4 ^^^ (-1 : Int32))), .unset, .unset, .unset] [(.ref b1), (.ref b1)])) (fun _ k => XS.dup X1.here hx rfl (hb hby at_33) rfl rfl k) ?_
  obtain ⟨_, _, ⟨T11, L11, k11, n11⟩, -, X11, ⟨Lc11, hQ11, l11, y11, z11⟩, st11⟩ := X1.specialBack hx (y := (⟨"com/example/tidegraph/tidegraph/graph/ElementList", "<init>", "()V"⟩ : MethodName)) rfl hown (mvT hZ (hw _ (List.mem_of_getElem? (i := 4) rfl))) (mvT hZ (hw _ (List.mem_of_getElem? (i := 5) rfl))) (mvT hZ (hw _ (List.mem_of_getElem? (i := 6) rfl))) (by decide) (backOf (W := 1) (rm1 l Z a0 hw [] b1 na h1 n0 z7 A1 F8 F9 F10 g3 f4 Sn) hZ (hw _ (List.mem_of_getElem? (i := 6) rfl)) (hw _ (List.mem_of_getElem? (i := 3) rfl)) (by decide) (by decide)) (g := (mkF m 34 #[.val (.int p1), .val (.int p2), .val (.int p3), .val (.int p4), .val (.int p5), .val (.int p6), .val (.int N_), .val (.int I_), .val (.int (p3 ^^^ (-1 : Int32))), .val (.int (p4 ^^^ (-1 : Int32))), .unset, .unset, .unset] [(.ref b1), (.ref b1)])) rfl (by rw [hml]; rfl) (Steps.refl _) (a := b1) (argsL := []) (rest := [(.ref b1)]) (lenOf pd_0 rfl) rfl (by show 2 * 0 + _ ≤ _; exact Nat.le_of_eq rfl) (hb hby at_34) (fun _ _ => ⟨rfl, e1, (by decide : 1 + 0 ≤ _), (by decide : 3 + 0 ≤ _)⟩)
  dsimp only [Pt.U, Pt.locs, Pt.cells, Pt.slots] at X11 l11 y11 z11 st11 hQ11
  subst l11 y11 z11
  obtain ⟨rfl, N11q, K11, F_modCount11, F_elements11, F_size11⟩ := hQ11
  have N12 := Fr.app N0 N11q
  have f13 := f4.keep K11 (allS g3 all0)
  have f14 := f5.keep K11 (ninS ne2 nin0)
  have f15 := f6.keep K11
  have f16 := A1.keep K11
  have z17 := Nat.le_trans z7 K11.1
  refine Go.via (S' := T11.setTop (mkF m 37 #[.val (.int p1), .val (.int p2), .val (.int p3), .val (.int p4), .val (.int p5), .val (.int p6), .val (.int N_), .val (.int I_), .val (.int (p3 ^^^ (-1 : Int32))), .val (.int (p4 ^^^ (-1 : Int32))), .unset, .unset, .unset] [(.ref b1)])) (fun _ k => st11.trans k) ?_
  refine Go.via (S' := T11.setTop (mkF m 39 #[.val (.int p1), .val (.int p2), .val (.int p3), .val (.int p4), .val (.int p5), .val (.int p6), .val (.int N_), .val (.int I_), .val (.int (p3 ^^^ (-1 : Int32))), .val (.int (p4 ^^^ (-1 : Int32))), .val (.ref b1), .unset, .unset] [])) (fun _ k => XS.astore X11.here hx rfl (hb hby at_37) rfl rfl (l' := #[.val (.int p1), .val (.int p2), .val (.int p3), .val (.int p4), .val (.int p5), .val (.int p6), .val (.int N_), .val (.int I_), .val (.int (p3 ^^^ (-1 : Int32))), .val (.int (p4 ^^^ (-1 : Int32))), .val (.ref b1), .unset, .unset]) rfl k) ?_
  refine Go.via (S' := T11.setTop (mkF m 41 #[.val (.int p1), .val (.int p2), .val (.int p3), .val (.int p4), .val (.int p5), .val (.int p6), .val (.int N_), .val (.int I_), .val (.int (p3 ^^^ (-1 : Int32))), .val (.int (p4 ^^^ (-1 : Int32))), .val (.ref b1), .unset, .unset] [(.ref b1)])) (fun _ k => XS.aload X11.here hx rfl (hb hby at_39) rfl rfl k) ?_
  refine Go.via (S' := T11.setTop (mkF m 42 #[.val (.int p1), .val (.int p2), .val (.int p3), .val (.int p4), .val (.int p5), .val (.int p6), .val (.int N_), .val (.int I_), .val (.int (p3 ^^^ (-1 : Int32))), .val (.int (p4 ^^^ (-1 : Int32))), .val (.ref b1), .unset, .unset] [(.int p3), (.ref b1)])) (fun _ k => XS.iloadN X11.here hx rfl (hb hby at_41) rfl k) ?_
  obtain ⟨_, _, ⟨T18, L18, k18, n18⟩, -, X18, ⟨Lc18, hQ18, l18, y18, z18⟩, st18⟩ := Jvm.LawKit.callS X11 hx (y := (⟨"java/lang/Integer", "valueOf", "(I)Ljava/lang/Integer;"⟩ : MethodName)) hown (mvT hZ (hw _ (List.mem_of_getElem? (i := 27) rfl))) (mvT hZ (hw _ (List.mem_of_getElem? (i := 28) rfl))) (mvT hZ (hw _ (List.mem_of_getElem? (i := 29) rfl))) (mvT hZ (hw _ (List.mem_of_getElem? (i := 30) rfl))) (by decide) (backOf (W := 1) (rm5 l Z a0 hw [] p3 ca cc T11.heap n0 z17 f13 Sh Sc Bc) hZ (hw _ (List.mem_of_getElem? (i := 30) rfl)) (hw _ (List.mem_of_getElem? (i := 29) rfl)) (by decide) (by decide)) (g := (mkF m 42 #[.val (.int p1), .val (.int p2), .val (.int p3), .val (.int p4), .val (.int p5), .val (.int p6), .val (.int N_), .val (.int I_), .val (.int (p3 ^^^ (-1 : Int32))), .val (.int (p4 ^^^ (-1 : Int32))), .val (.ref b1), .unset, .unset] [(.int p3), (.ref b1)])) rfl (by rw [hml]; rfl) (argsL := [(.int p3)]) (rest := [(.ref b1)]) (lenOf pd_5 rfl) rfl (by show 2 * 0 + _ ≤ _; exact Nat.le_of_eq rfl) (hb hby at_42) (fun _ _ => ⟨rfl, rfl, (by decide : 1 + 1 ≤ _), (by decide : 3 + 1 ≤ _)⟩)
  dsimp only [Pt.U, Pt.locs, Pt.cells, Pt.slots] at X18 l18 y18 z18 st18 hQ18
  subst l18 y18 z18
  obtain ⟨r18, rfl, N18q, K18, Er18, Fv18⟩ := hQ18
  have N19 := Fr.app N12 N18q
  have f20 := f13.keep K18 all0
  have f21 := f14.keep K18 nin0
  have f22 := f15.keep K18
  have f23 := f16.keep K18
  have f24 := F_modCount11.keep K18 nin0
  have f25 := F_elements11.keep K18 nin0
  have f26 := F_size11.keep K18 nin0
  have z27 := Nat.le_trans z17 K18.1
  refine Go.via (S' := T18.setTop (mkF m 45 #[.val (.int p1), .val (.int p2), .val (.int p3), .val (.int p4), .val (.int p5), .val (.int p6), .val (.int N_), .val (.int I_), .val (.int (p3 ^^^ (-1 : Int32))), .val (.int (p4 ^^^ (-1 : Int32))), .val (.ref b1), .unset, .unset] [(.ref r18), (.ref b1)])) (fun _ k => st18 _ k) ?_
  have ne28 : r18 ≠ b1 := ne_exa Er18 f23 (by decide)
  obtain ⟨aq30c, aq30, -⟩ := id f21
  have ne29 : r18 ≠ na := ne_arr Er18 (hw _ (List.mem_of_getElem? (i := 90) rfl)) aq30
  obtain ⟨cq31, kq31, q31a, q31b, q31c⟩ := isOf hZ rfl f23
  obtain ⟨_, _, ⟨T31, L31, k31, n31⟩, -, X31, ⟨Lc31, hQ31, l31, y31, z31⟩, st31⟩ := X18.virtualBack hx (y := (⟨"com/example/tidegraph/tidegraph/graph/ElementList", "append", "(Ljava/lang/Object;)V"⟩ : MethodName)) (z := (⟨"com/example/tidegraph/tidegraph/graph/ElementList", "append", "(Ljava/lang/Object;)V"⟩ : MethodName)) hown (mvT hZ (hw _ (List.mem_of_getElem? (i := 34) rfl))) (mvT hZ (hw _ (List.mem_of_getElem? (i := 35) rfl))) (notFace_of_selects (args := #[]) (mvT hZ (hw _ (List.mem_of_getElem? (i := 37) rfl)))) (mvT hZ (hw _ (List.mem_of_getElem? (i := 37) rfl))) (mvT hZ (hw _ (List.mem_of_getElem? (i := 36) rfl))) (by decide) (backOf (W := 0) (rm6m0 l Z a0 hw [] b1 r18 na kn (0 : Int32) mr  T18.heap n0 z27 f23 f24 f25 f26 g3 f21 f22 ne2 Er18 ne28 ne29  Mr) hZ (hw _ (List.mem_of_getElem? (i := 38) rfl)) (hw _ (List.mem_of_getElem? (i := 3) rfl)) (by decide) (by decide)) q31a q31c (g := (mkF m 45 #[.val (.int p1), .val (.int p2), .val (.int p3), .val (.int p4), .val (.int p5), .val (.int p6), .val (.int N_), .val (.int I_), .val (.int (p3 ^^^ (-1 : Int32))), .val (.int (p4 ^^^ (-1 : Int32))), .val (.ref b1), .unset, .unset] [(.ref r18), (.ref b1)])) rfl (by rw [hml]; rfl) (Steps.refl _) (argsL := [(.ref r18)]) (rest := []) (lenOf pd_6 rfl) rfl (by show 2 * 0 + _ ≤ _; exact Nat.le_of_eq rfl) (hb hby at_45) (fun _ _ => ⟨rfl, rfl, (by decide : 2 + 1 ≤ _), (by decide : 4 + 4 ≤ _)⟩)
  dsimp only [Pt.U, Pt.locs, Pt.cells, Pt.slots] at X31 l31 y31 z31 st31 hQ31
  subst l31 y31 z31
  obtain ⟨rfl, N31q, K31, ar31, k231, u131, u231, Ex31, Ov31, Fm31, Fe31, Fs31, Va31⟩ := hQ31
  have N32 := Fr.app N19 N31q
  have f33 := f20.keep K31 (allS g3 all0)
  have f34 := f21.keep K31 (ninS ne2 nin0)
  have f35 := f22.keep K31
  have f36 := f23.keep K31
  have f37 := Er18.keep K31
  have f38 := Fv18.keep K31 (ninS ne28 nin0)
  have z39 := Nat.le_trans z27 K31.1
  refine Go.via (S' := T31.setTop (mkF m 48 #[.val (.int p1), .val (.int p2), .val (.int p3), .val (.int p4), .val (.int p5), .val (.int p6), .val (.int N_), .val (.int I_), .val (.int (p3 ^^^ (-1 : Int32))), .val (.int (p4 ^^^ (-1 : Int32))), .val (.ref b1), .unset, .unset] [])) (fun _ k => st31.trans k) ?_
  have ne40 : b1 ≠ ar31 := Nat.ne_of_lt (Nat.lt_of_lt_of_le f23.lt u231)
  have ne41 : na ≠ ar31 := Nat.ne_of_lt (Nat.lt_of_lt_of_le f21.lt u231)
  have ne42 : r18 ≠ ar31 := Nat.ne_of_lt (Nat.lt_of_lt_of_le Er18.lt u231)
  refine Go.via (S' := T31.setTop (mkF m 50 #[.val (.int p1), .val (.int p2), .val (.int p3), .val (.int p4), .val (.int p5), .val (.int p6), .val (.int N_), .val (.int I_), .val (.int (p3 ^^^ (-1 : Int32))), .val (.int (p4 ^^^ (-1 : Int32))), .val (.ref b1), .unset, .unset] [(.int N_)])) (fun _ k => XS.iload X31.here hx rfl (hb hby at_48) rfl k) ?_
  refine Go.via (S' := T31.setTop (mkF m 51 #[.val (.int p1), .val (.int p2), .val (.int p3), .val (.int p4), .val (.int p5), .val (.int p6), .val (.int N_), .val (.int I_), .val (.int (p3 ^^^ (-1 : Int32))), .val (.int (p4 ^^^ (-1 : Int32))), .val (.ref b1), .unset, .unset] [(.int (1 : Int32)), (.int N_)])) (fun _ k => XS.iconst X31.here hx rfl (hb hby at_50) k) ?_
  rcases Decidable.em ((1 : Int32) < N_) with hc51 | hc51
  · refine Go.via (S' := T31.setTop (mkF m 54 #[.val (.int p1), .val (.int p2), .val (.int p3), .val (.int p4), .val (.int p5), .val (.int p6), .val (.int N_), .val (.int I_), .val (.int (p3 ^^^ (-1 : Int32))), .val (.int (p4 ^^^ (-1 : Int32))), .val (.ref b1), .unset, .unset] [])) (fun _ k => XS.icmpNo X31.here hx rfl (hb hby at_51) rfl (tlt hc51).2.2.2 k) ?_
    refine Go.via (S' := T31.setTop (mkF m 56 #[.val (.int p1), .val (.int p2), .val (.int p3), .val (.int p4), .val (.int p5), .val (.int p6), .val (.int N_), .val (.int I_), .val (.int (p3 ^^^ (-1 : Int32))), .val (.int (p4 ^^^ (-1 : Int32))), .val (.ref b1), .unset, .unset] [(.ref b1)])) (fun _ k => XS.aload X31.here hx rfl (hb hby at_54) rfl rfl k) ?_
    refine Go.via (S' := T31.setTop (mkF m 57 #[.val (.int p1), .val (.int p2), .val (.int p3), .val (.int p4), .val (.int p5), .val (.int p6), .val (.int N_), .val (.int I_), .val (.int (p3 ^^^ (-1 : Int32))), .val (.int (p4 ^^^ (-1 : Int32))), .val (.ref b1), .unset, .unset] [(.int p4), (.ref b1)])) (fun _ k => XS.iloadN X31.here hx rfl (hb hby at_56) rfl k) ?_
    obtain ⟨_, _, ⟨T43, L43, k43, n43⟩, -, X43, ⟨Lc43, hQ43, l43, y43, z43⟩, st43⟩ := Jvm.LawKit.callS X31 hx (y := (⟨"java/lang/Integer", "valueOf", "(I)Ljava/lang/Integer;"⟩ : MethodName)) hown (mvT hZ (hw _ (List.mem_of_getElem? (i := 27) rfl))) (mvT hZ (hw _ (List.mem_of_getElem? (i := 28) rfl))) (mvT hZ (hw _ (List.mem_of_getElem? (i := 29) rfl))) (mvT hZ (hw _ (List.mem_of_getElem? (i := 30) rfl))) (by decide) (backOf (W := 1) (rm5 l Z a0 hw [] p4 ca cc T31.heap n0 z39 f33 Sh Sc Bc) hZ (hw _ (List.mem_of_getElem? (i := 30) rfl)) (hw _ (List.mem_of_getElem? (i := 29) rfl)) (by decide) (by decide)) (g := (mkF m 57 #[.val (.int p1), .val (.int p2), .val (.int p3), .val (.int p4), .val (.int p5), .val (.int p6), .val (.int N_), .val (.int I_), .val (.int (p3 ^^^ (-1 : Int32))), .val (.int (p4 ^^^ (-1 : Int32))), .val (.ref b1), .unset, .unset] [(.int p4), (.ref b1)])) rfl (by rw [hml]; rfl) (argsL := [(.int p4)]) (rest := [(.ref b1)]) (lenOf pd_5 rfl) rfl (by show 2 * 0 + _ ≤ _; exact Nat.le_of_eq rfl) (hb hby at_57) (fun _ _ => ⟨rfl, rfl, (by decide : 3 + 1 ≤ _), (by decide : 8 + 1 ≤ _)⟩)
    dsimp only [Pt.U, Pt.locs, Pt.cells, Pt.slots] at X43 l43 y43 z43 st43 hQ43
    subst l43 y43 z43
    obtain ⟨r43, rfl, N43q, K43, Er43, Fv43⟩ := hQ43
    have N44 := Fr.app N32 N43q
    have f45 := f33.keep K43 all0
    have f46 := f34.keep K43 nin0
    have f47 := f35.keep K43
    have f48 := f36.keep K43
    have f49 := f37.keep K43
    have f50 := f38.keep K43 nin0
    have f51 := Fm31.keep K43 nin0
    have f52 := Ex31.keep K43
    have f53 := Fe31.keep K43 nin0
    have f54 := Fs31.keep K43 nin0
    have f55 := Va31.keep K43 nin0
    have z56 := Nat.le_trans z39 K43.1
    refine Go.via (S' := T43.setTop (mkF m 60 #[.val (.int p1), .val (.int p2), .val (.int p3), .val (.int p4), .val (.int p5), .val (.int p6), .val (.int N_), .val (.int I_), .val (.int (p3 ^^^ (-1 : Int32))), .val (.int (p4 ^^^ (-1 : Int32))), .val (.ref b1), .unset, .unset] [(.ref r43), (.ref b1)])) (fun _ k => st43 _ k) ?_
    have ne57 : r43 ≠ b1 := ne_exa Er43 f48 (by decide)
    obtain ⟨aq59c, aq59, -⟩ := id f55
    have ne58 : r43 ≠ ar31 := ne_arr Er43 (hw _ (List.mem_of_getElem? (i := 90) rfl)) aq59
    obtain ⟨cq60, kq60, q60a, q60b, q60c⟩ := isOf hZ rfl f48
    obtain ⟨_, _, ⟨T60, L60, k60, n60⟩, -, X60, ⟨Lc60, hQ60, l60, y60, z60⟩, st60⟩ := X43.virtualBack hx (y := (⟨"com/example/tidegraph/tidegraph/graph/ElementList", "append", "(Ljava/lang/Object;)V"⟩ : MethodName)) (z := (⟨"com/example/tidegraph/tidegraph/graph/ElementList", "append", "(Ljava/lang/Object;)V"⟩ : MethodName)) hown (mvT hZ (hw _ (List.mem_of_getElem? (i := 34) rfl))) (mvT hZ (hw _ (List.mem_of_getElem? (i := 35) rfl))) (notFace_of_selects (args := #[]) (mvT hZ (hw _ (List.mem_of_getElem? (i := 37) rfl)))) (mvT hZ (hw _ (List.mem_of_getElem? (i := 37) rfl))) (mvT hZ (hw _ (List.mem_of_getElem? (i := 36) rfl))) (by decide) (backOf (W := 0) (rm6m1 l Z a0 hw [] b1 r43 ar31 k231 ((0 : Int32) + 1) mr r18 T43.heap n0 z56 f48 f51 f53 f54 g3 f55 f52 (Ne.symm ne40) Er43 ne57 ne58 Ov31 u131) hZ (hw _ (List.mem_of_getElem? (i := 38) rfl)) (hw _ (List.mem_of_getElem? (i := 3) rfl)) (by decide) (by decide)) q60a q60c (g := (mkF m 60 #[.val (.int p1), .val (.int p2), .val (.int p3), .val (.int p4), .val (.int p5), .val (.int p6), .val (.int N_), .val (.int I_), .val (.int (p3 ^^^ (-1 : Int32))), .val (.int (p4 ^^^ (-1 : Int32))), .val (.ref b1), .unset, .unset] [(.ref r43), (.ref b1)])) rfl (by rw [hml]; rfl) (Steps.refl _) (argsL := [(.ref r43)]) (rest := []) (lenOf pd_6 rfl) rfl (by show 2 * 0 + _ ≤ _; exact Nat.le_of_eq rfl) (hb hby at_60) (fun _ _ => ⟨rfl, rfl, (by decide : 4 + 0 ≤ _), (by decide : 9 + 0 ≤ _)⟩)
    dsimp only [Pt.U, Pt.locs, Pt.cells, Pt.slots] at X60 l60 y60 z60 st60 hQ60
    subst l60 y60 z60
    obtain ⟨rfl, N60q, K60, Fm60, Fe60, Fs60, Va60⟩ := hQ60
    have N61 := Fr.app N44 N60q
    have f62 := f45.keep K60 (allS g3 (allS u131 all0))
    have f63 := f46.keep K60 (ninS ne2 (ninS ne41 nin0))
    have f64 := f47.keep K60
    have f65 := f48.keep K60
    have f66 := f49.keep K60
    have f67 := f50.keep K60 (ninS ne28 (ninS ne42 nin0))
    have f68 := f52.keep K60
    have f69 := Er43.keep K60
    have f70 := Fv43.keep K60 (ninS ne57 (ninS ne58 nin0))
    have z71 := Nat.le_trans z56 K60.1
    refine Go.via (S' := T60.setTop (mkF m 63 #[.val (.int p1), .val (.int p2), .val (.int p3), .val (.int p4), .val (.int p5), .val (.int p6), .val (.int N_), .val (.int I_), .val (.int (p3 ^^^ (-1 : Int32))), .val (.int (p4 ^^^ (-1 : Int32))), .val (.ref b1), .unset, .unset] [])) (fun _ k => st60.trans k) ?_
    refine Go.via (S' := T60.setTop (mkF m 65 #[.val (.int p1), .val (.int p2), .val (.int p3), .val (.int p4), .val (.int p5), .val (.int p6), .val (.int N_), .val (.int I_), .val (.int (p3 ^^^ (-1 : Int32))), .val (.int (p4 ^^^ (-1 : Int32))), .val (.ref b1), .unset, .unset] [(.int N_)])) (fun _ k => XS.iload X60.here hx rfl (hb hby at_63) rfl k) ?_
    refine Go.via (S' := T60.setTop (mkF m 66 #[.val (.int p1), .val (.int p2), .val (.int p3), .val (.int p4), .val (.int p5), .val (.int p6), .val (.int N_), .val (.int I_), .val (.int (p3 ^^^ (-1 : Int32))), .val (.int (p4 ^^^ (-1 : Int32))), .val (.ref b1), .unset, .unset] [(.int (2 : Int32)), (.int N_)])) (fun _ k => XS.iconst X60.here hx rfl (hb hby at_65) k) ?_
    rcases Decidable.em ((2 : Int32) < N_) with hc66 | hc66
    · refine Go.via (S' := T60.setTop (mkF m 69 #[.val (.int p1), .val (.int p2), .val (.int p3), .val (.int p4), .val (.int p5), .val (.int p6), .val (.int N_), .val (.int I_), .val (.int (p3 ^^^ (-1 : Int32))), .val (.int (p4 ^^^ (-1 : Int32))), .val (.ref b1), .unset, .unset] [])) (fun _ k => XS.icmpNo X60.here hx rfl (hb hby at_66) rfl (tlt hc66).2.2.2 k) ?_
      refine Go.via (S' := T60.setTop (mkF m 71 #[.val (.int p1), .val (.int p2), .val (.int p3), .val (.int p4), .val (.int p5), .val (.int p6), .val (.int N_), .val (.int I_), .val (.int (p3 ^^^ (-1 : Int32))), .val (.int (p4 ^^^ (-1 : Int32))), .val (.ref b1), .unset, .unset] [(.ref b1)])) (fun _ k => XS.aload X60.here hx rfl (hb hby at_69) rfl rfl k) ?_
      refine Go.via (S' := T60.setTop (mkF m 73 #[.val (.int p1), .val (.int p2), .val (.int p3), .val (.int p4), .val (.int p5), .val (.int p6), .val (.int N_), .val (.int I_), .val (.int (p3 ^^^ (-1 : Int32))), .val (.int (p4 ^^^ (-1 : Int32))), .val (.ref b1), .unset, .unset] [(.int p5), (.ref b1)])) (fun _ k => XS.iload X60.here hx rfl (hb hby at_71) rfl k) ?_
      obtain ⟨_, _, ⟨T72, L72, k72, n72⟩, -, X72, ⟨Lc72, hQ72, l72, y72, z72⟩, st72⟩ := Jvm.LawKit.callS X60 hx (y := (⟨"java/lang/Integer", "valueOf", "(I)Ljava/lang/Integer;"⟩ : MethodName)) hown (mvT hZ (hw _ (List.mem_of_getElem? (i := 27) rfl))) (mvT hZ (hw _ (List.mem_of_getElem? (i := 28) rfl))) (mvT hZ (hw _ (List.mem_of_getElem? (i := 29) rfl))) (mvT hZ (hw _ (List.mem_of_getElem? (i := 30) rfl))) (by decide) (backOf (W := 1) (rm5 l Z a0 hw [] p5 ca cc T60.heap n0 z71 f62 Sh Sc Bc) hZ (hw _ (List.mem_of_getElem? (i := 30) rfl)) (hw _ (List.mem_of_getElem? (i := 29) rfl)) (by decide) (by decide)) (g := (mkF m 73 #[.val (.int p1), .val (.int p2), .val (.int p3), .val (.int p4), .val (.int p5), .val (.int p6), .val (.int N_), .val (.int I_), .val (.int (p3 ^^^ (-1 : Int32))), .val (.int (p4 ^^^ (-1 : Int32))), .val (.ref b1), .unset, .unset] [(.int p5), (.ref b1)])) rfl (by rw [hml]; rfl) (argsL := [(.int p5)]) (rest := [(.ref b1)]) (lenOf pd_5 rfl) rfl (by show 2 * 0 + _ ≤ _; exact Nat.le_of_eq rfl) (hb hby at_73) (fun _ _ => ⟨rfl, rfl, (by decide : 4 + 1 ≤ _), (by decide : 9 + 1 ≤ _)⟩)
      dsimp only [Pt.U, Pt.locs, Pt.cells, Pt.slots] at X72 l72 y72 z72 st72 hQ72
      subst l72 y72 z72
      obtain ⟨r72, rfl, N72q, K72, Er72, Fv72⟩ := hQ72
      have N73 := Fr.app N61 N72q
      have f74 := f62.keep K72 all0
      have f75 := f63.keep K72 nin0
      have f76 := f64.keep K72
      have f77 := f65.keep K72
      have f78 := f66.keep K72
      have f79 := f67.keep K72 nin0
      have f80 := f68.keep K72
      have f81 := f69.keep K72
      have f82 := f70.keep K72 nin0
      have f83 := Fm60.keep K72 nin0
      have f84 := Fe60.keep K72 nin0
      have f85 := Fs60.keep K72 nin0
      have f86 := Va60.keep K72 nin0
      have z87 := Nat.le_trans z71 K72.1
      refine Go.via (S' := T72.setTop (mkF m 76 #[.val (.int p1), .val (.int p2), .val (.int p3), .val (.int p4), .val (.int p5), .val (.int p6), .val (.int N_), .val (.int I_), .val (.int (p3 ^^^ (-1 : Int32))), .val (.int (p4 ^^^ (-1 : Int32))), .val (.ref b1), .unset, .unset] [(.ref r72), (.ref b1)])) (fun _ k => st72 _ k) ?_
      have ne88 : r72 ≠ b1 := ne_exa Er72 f77 (by decide)
      obtain ⟨aq90c, aq90, -⟩ := id f86
      have ne89 : r72 ≠ ar31 := ne_arr Er72 (hw _ (List.mem_of_getElem? (i := 90) rfl)) aq90
      obtain ⟨cq91, kq91, q91a, q91b, q91c⟩ := isOf hZ rfl f77
      obtain ⟨_, _, ⟨T91, L91, k91, n91⟩, -, X91, ⟨Lc91, hQ91, l91, y91, z91⟩, st91⟩ := X72.virtualBack hx (y := (⟨"com/example/tidegraph/tidegraph/graph/ElementList", "append", "(Ljava/lang/Object;)V"⟩ : MethodName)) (z := (⟨"com/example/tidegraph/tidegraph/graph/ElementList", "append", "(Ljava/lang/Object;)V"⟩ : MethodName)) hown (mvT hZ (hw _ (List.mem_of_getElem? (i := 34) rfl))) (mvT hZ (hw _ (List.mem_of_getElem? (i := 35) rfl))) (notFace_of_selects (args := #[]) (mvT hZ (hw _ (List.mem_of_getElem? (i := 37) rfl)))) (mvT hZ (hw _ (List.mem_of_getElem? (i := 37) rfl))) (mvT hZ (hw _ (List.mem_of_getElem? (i := 36) rfl))) (by decide) (backOf (W := 0) (rm6m2 l Z a0 hw [] b1 r72 ar31 k231 (((0 : Int32) + 1) + 1) mr r18 r43 T72.heap n0 z87 f77 f83 f84 f85 g3 f86 f80 (Ne.symm ne40) Er72 ne88 ne89 Ov31 u131) hZ (hw _ (List.mem_of_getElem? (i := 38) rfl)) (hw _ (List.mem_of_getElem? (i := 3) rfl)) (by decide) (by decide)) q91a q91c (g := (mkF m 76 #[.val (.int p1), .val (.int p2), .val (.int p3), .val (.int p4), .val (.int p5), .val (.int p6), .val (.int N_), .val (.int I_), .val (.int (p3 ^^^ (-1 : Int32))), .val (.int (p4 ^^^ (-1 : Int32))), .val (.ref b1), .unset, .unset] [(.ref r72), (.ref b1)])) rfl (by rw [hml]; rfl) (Steps.refl _) (argsL := [(.ref r72)]) (rest := []) (lenOf pd_6 rfl) rfl (by show 2 * 0 + _ ≤ _; exact Nat.le_of_eq rfl) (hb hby at_76) (fun _ _ => ⟨rfl, rfl, (by decide : 5 + 0 ≤ _), (by decide : 10 + 0 ≤ _)⟩)
      dsimp only [Pt.U, Pt.locs, Pt.cells, Pt.slots] at X91 l91 y91 z91 st91 hQ91
      subst l91 y91 z91
      obtain ⟨rfl, N91q, K91, Fm91, Fe91, Fs91, Va91⟩ := hQ91
      have N92 := Fr.app N73 N91q
      have f93 := f74.keep K91 (allS g3 (allS u131 all0))
      have f94 := f75.keep K91 (ninS ne2 (ninS ne41 nin0))
      have f95 := f76.keep K91
      have f96 := f77.keep K91
      have f97 := f78.keep K91
      have f98 := f79.keep K91 (ninS ne28 (ninS ne42 nin0))
      have f99 := f80.keep K91
      have f100 := f81.keep K91
      have f101 := f82.keep K91 (ninS ne57 (ninS ne58 nin0))
      have f102 := Er72.keep K91
      have f103 := Fv72.keep K91 (ninS ne88 (ninS ne89 nin0))
      have z104 := Nat.le_trans z87 K91.1
      refine Go.via (S' := T91.setTop (mkF m 79 #[.val (.int p1), .val (.int p2), .val (.int p3), .val (.int p4), .val (.int p5), .val (.int p6), .val (.int N_), .val (.int I_), .val (.int (p3 ^^^ (-1 : Int32))), .val (.int (p4 ^^^ (-1 : Int32))), .val (.ref b1), .unset, .unset] [])) (fun _ k => st91.trans k) ?_
      refine Go.via (S' := T91.setTop (mkF m 81 #[.val (.int p1), .val (.int p2), .val (.int p3), .val (.int p4), .val (.int p5), .val (.int p6), .val (.int N_), .val (.int I_), .val (.int (p3 ^^^ (-1 : Int32))), .val (.int (p4 ^^^ (-1 : Int32))), .val (.ref b1), .unset, .unset] [(.int N_)])) (fun _ k => XS.iload X91.here hx rfl (hb hby at_79) rfl k) ?_
      refine Go.via (S' := T91.setTop (mkF m 82 #[.val (.int p1), .val (.int p2), .val (.int p3), .val (.int p4), .val (.int p5), .val (.int p6), .val (.int N_), .val (.int I_), .val (.int (p3 ^^^ (-1 : Int32))), .val (.int (p4 ^^^ (-1 : Int32))), .val (.ref b1), .unset, .unset] [(.int (3 : Int32)), (.int N_)])) (fun _ k => XS.iconst X91.here hx rfl (hb hby at_81) k) ?_
      rcases Decidable.em ((3 : Int32) < N_) with hc82 | hc82
      · refine Go.via (S' := T91.setTop (mkF m 85 #[.val (.int p1), .val (.int p2), .val (.int p3), .val (.int p4), .val (.int p5), .val (.int p6), .val (.int N_), .val (.int I_), .val (.int (p3 ^^^ (-1 : Int32))), .val (.int (p4 ^^^ (-1 : Int32))), .val (.ref b1), .unset, .unset] [])) (fun _ k => XS.icmpNo X91.here hx rfl (hb hby at_82) rfl (tlt hc82).2.2.2 k) ?_
        refine Go.via (S' := T91.setTop (mkF m 87 #[.val (.int p1), .val (.int p2), .val (.int p3), .val (.int p4), .val (.int p5), .val (.int p6), .val (.int N_), .val (.int I_), .val (.int (p3 ^^^ (-1 : Int32))), .val (.int (p4 ^^^ (-1 : Int32))), .val (.ref b1), .unset, .unset] [(.ref b1)])) (fun _ k => XS.aload X91.here hx rfl (hb hby at_85) rfl rfl k) ?_
        refine Go.via (S' := T91.setTop (mkF m 89 #[.val (.int p1), .val (.int p2), .val (.int p3), .val (.int p4), .val (.int p5), .val (.int p6), .val (.int N_), .val (.int I_), .val (.int (p3 ^^^ (-1 : Int32))), .val (.int (p4 ^^^ (-1 : Int32))), .val (.ref b1), .unset, .unset] [(.int p6), (.ref b1)])) (fun _ k => XS.iload X91.here hx rfl (hb hby at_87) rfl k) ?_
        obtain ⟨_, _, ⟨T105, L105, k105, n105⟩, -, X105, ⟨Lc105, hQ105, l105, y105, z105⟩, st105⟩ := Jvm.LawKit.callS X91 hx (y := (⟨"java/lang/Integer", "valueOf", "(I)Ljava/lang/Integer;"⟩ : MethodName)) hown (mvT hZ (hw _ (List.mem_of_getElem? (i := 27) rfl))) (mvT hZ (hw _ (List.mem_of_getElem? (i := 28) rfl))) (mvT hZ (hw _ (List.mem_of_getElem? (i := 29) rfl))) (mvT hZ (hw _ (List.mem_of_getElem? (i := 30) rfl))) (by decide) (backOf (W := 1) (rm5 l Z a0 hw [] p6 ca cc T91.heap n0 z104 f93 Sh Sc Bc) hZ (hw _ (List.mem_of_getElem? (i := 30) rfl)) (hw _ (List.mem_of_getElem? (i := 29) rfl)) (by decide) (by decide)) (g := (mkF m 89 #[.val (.int p1), .val (.int p2), .val (.int p3), .val (.int p4), .val (.int p5), .val (.int p6), .val (.int N_), .val (.int I_), .val (.int (p3 ^^^ (-1 : Int32))), .val (.int (p4 ^^^ (-1 : Int32))), .val (.ref b1), .unset, .unset] [(.int p6), (.ref b1)])) rfl (by rw [hml]; rfl) (argsL := [(.int p6)]) (rest := [(.ref b1)]) (lenOf pd_5 rfl) rfl (by show 2 * 0 + _ ≤ _; exact Nat.le_of_eq rfl) (hb hby at_89) (fun _ _ => ⟨rfl, rfl, (by decide : 5 + 1 ≤ _), (by decide : 10 + 1 ≤ _)⟩)
        dsimp only [Pt.U, Pt.locs, Pt.cells, Pt.slots] at X105 l105 y105 z105 st105 hQ105
        subst l105 y105 z105
        obtain ⟨r105, rfl, N105q, K105, Er105, Fv105⟩ := hQ105
        have N106 := Fr.app N92 N105q
        have f107 := f93.keep K105 all0
        have f108 := f94.keep K105 nin0
        have f109 := f95.keep K105
        have f110 := f96.keep K105
        have f111 := f97.keep K105
        have f112 := f98.keep K105 nin0
        have f113 := f99.keep K105
        have f114 := f100.keep K105
        have f115 := f101.keep K105 nin0
        have f116 := f102.keep K105
        have f117 := f103.keep K105 nin0
        have f118 := Fm91.keep K105 nin0
        have f119 := Fe91.keep K105 nin0
        have f120 := Fs91.keep K105 nin0
        have f121 := Va91.keep K105 nin0
        have z122 := Nat.le_trans z104 K105.1
        refine Go.via (S' := T105.setTop (mkF m 92 #[.val (.int p1), .val (.int p2), .val (.int p3), .val (.int p4), .val (.int p5), .val (.int p6), .val (.int N_), .val (.int I_), .val (.int (p3 ^^^ (-1 : Int32))), .val (.int (p4 ^^^ (-1 : Int32))), .val (.ref b1), .unset, .unset] [(.ref r105), (.ref b1)])) (fun _ k => st105 _ k) ?_
        have ne123 : r105 ≠ b1 := ne_exa Er105 f110 (by decide)
        obtain ⟨aq125c, aq125, -⟩ := id f121
        have ne124 : r105 ≠ ar31 := ne_arr Er105 (hw _ (List.mem_of_getElem? (i := 90) rfl)) aq125
        obtain ⟨cq126, kq126, q126a, q126b, q126c⟩ := isOf hZ rfl f110
        obtain ⟨_, _, ⟨T126, L126, k126, n126⟩, -, X126, ⟨Lc126, hQ126, l126, y126, z126⟩, st126⟩ := X105.virtualBack hx (y := (⟨"com/example/tidegraph/tidegraph/graph/ElementList", "append", "(Ljava/lang/Object;)V"⟩ : MethodName)) (z := (⟨"com/example/tidegraph/tidegraph/graph/ElementList", "append", "(Ljava/lang/Object;)V"⟩ : MethodName)) hown (mvT hZ (hw _ (List.mem_of_getElem? (i := 34) rfl))) (mvT hZ (hw _ (List.mem_of_getElem? (i := 35) rfl))) (notFace_of_selects (args := #[]) (mvT hZ (hw _ (List.mem_of_getElem? (i := 37) rfl)))) (mvT hZ (hw _ (List.mem_of_getElem? (i := 37) rfl))) (mvT hZ (hw _ (List.mem_of_getElem? (i := 36) rfl))) (by decide) (backOf (W := 0) (rm6m3 l Z a0 hw [] b1 r105 ar31 k231 ((((0 : Int32) + 1) + 1) + 1) mr r18 r43 r72 T105.heap n0 z122 f110 f118 f119 f120 g3 f121 f113 (Ne.symm ne40) Er105 ne123 ne124 Ov31 u131) hZ (hw _ (List.mem_of_getElem? (i := 38) rfl)) (hw _ (List.mem_of_getElem? (i := 3) rfl)) (by decide) (by decide)) q126a q126c (g := (mkF m 92 #[.val (.int p1), .val (.int p2), .val (.int p3), .val (.int p4), .val (.int p5), .val (.int p6), .val (.int N_), .val (.int I_), .val (.int (p3 ^^^ (-1 : Int32))), .val (.int (p4 ^^^ (-1 : Int32))), .val (.ref b1), .unset, .unset] [(.ref r105), (.ref b1)])) rfl (by rw [hml]; rfl) (Steps.refl _) (argsL := [(.ref r105)]) (rest := []) (lenOf pd_6 rfl) rfl (by show 2 * 0 + _ ≤ _; exact Nat.le_of_eq rfl) (hb hby at_92) (fun _ _ => ⟨rfl, rfl, (by decide : 6 + 0 ≤ _), (by decide : 11 + 0 ≤ _)⟩)
        dsimp only [Pt.U, Pt.locs, Pt.cells, Pt.slots] at X126 l126 y126 z126 st126 hQ126
        subst l126 y126 z126
        obtain ⟨rfl, N126q, K126, Fm126, Fe126, Fs126, Va126⟩ := hQ126
        have N127 := Fr.app N106 N126q
        have f128 := f107.keep K126 (allS g3 (allS u131 all0))
        have f129 := f108.keep K126 (ninS ne2 (ninS ne41 nin0))
        have f130 := f109.keep K126
        have f131 := f110.keep K126
        have f132 := f111.keep K126
        have f133 := f112.keep K126 (ninS ne28 (ninS ne42 nin0))
        have f134 := f113.keep K126
        have f135 := f114.keep K126
        have f136 := f115.keep K126 (ninS ne57 (ninS ne58 nin0))
        have f137 := f116.keep K126
        have f138 := f117.keep K126 (ninS ne88 (ninS ne89 nin0))
        have f139 := Er105.keep K126
        have f140 := Fv105.keep K126 (ninS ne123 (ninS ne124 nin0))
        have z141 := Nat.le_trans z122 K126.1
        refine Go.via (S' := T126.setTop (mkF m 95 #[.val (.int p1), .val (.int p2), .val (.int p3), .val (.int p4), .val (.int p5), .val (.int p6), .val (.int N_), .val (.int I_), .val (.int (p3 ^^^ (-1 : Int32))), .val (.int (p4 ^^^ (-1 : Int32))), .val (.ref b1), .unset, .unset] [])) (fun _ k => st126.trans k) ?_
        refine Go.via (S' := T126.setTop (mkF m 97 #[.val (.int p1), .val (.int p2), .val (.int p3), .val (.int p4), .val (.int p5), .val (.int p6), .val (.int N_), .val (.int I_), .val (.int (p3 ^^^ (-1 : Int32))), .val (.int (p4 ^^^ (-1 : Int32))), .val (.ref b1), .unset, .unset] [(.int N_)])) (fun _ k => XS.iload X126.here hx rfl (hb hby at_95) rfl k) ?_
        refine Go.via (S' := T126.setTop (mkF m 98 #[.val (.int p1), .val (.int p2), .val (.int p3), .val (.int p4), .val (.int p5), .val (.int p6), .val (.int N_), .val (.int I_), .val (.int (p3 ^^^ (-1 : Int32))), .val (.int (p4 ^^^ (-1 : Int32))), .val (.ref b1), .unset, .unset] [(.int (4 : Int32)), (.int N_)])) (fun _ k => XS.iconst X126.here hx rfl (hb hby at_97) k) ?_
        rcases Decidable.em ((4 : Int32) < N_) with hc98 | hc98
        · refine Go.via (S' := T126.setTop (mkF m 101 #[.val (.int p1), .val (.int p2), .val (.int p3), .val (.int p4), .val (.int p5), .val (.int p6), .val (.int N_), .val (.int I_), .val (.int (p3 ^^^ (-1 : Int32))), .val (.int (p4 ^^^ (-1 : Int32))), .val (.ref b1), .unset, .unset] [])) (fun _ k => XS.icmpNo X126.here hx rfl (hb hby at_98) rfl (tlt hc98).2.2.2 k) ?_
          refine Go.via (S' := T126.setTop (mkF m 103 #[.val (.int p1), .val (.int p2), .val (.int p3), .val (.int p4), .val (.int p5), .val (.int p6), .val (.int N_), .val (.int I_), .val (.int (p3 ^^^ (-1 : Int32))), .val (.int (p4 ^^^ (-1 : Int32))), .val (.ref b1), .unset, .unset] [(.ref b1)])) (fun _ k => XS.aload X126.here hx rfl (hb hby at_101) rfl rfl k) ?_
          refine Go.via (S' := T126.setTop (mkF m 105 #[.val (.int p1), .val (.int p2), .val (.int p3), .val (.int p4), .val (.int p5), .val (.int p6), .val (.int N_), .val (.int I_), .val (.int (p3 ^^^ (-1 : Int32))), .val (.int (p4 ^^^ (-1 : Int32))), .val (.ref b1), .unset, .unset] [(.int (p3 ^^^ (-1 : Int32))), (.ref b1)])) (fun _ k => XS.iload X126.here hx rfl (hb hby at_103) rfl k) ?_
          obtain ⟨_, _, ⟨T142, L142, k142, n142⟩, -, X142, ⟨Lc142, hQ142, l142, y142, z142⟩, st142⟩ := Jvm.LawKit.callS X126 hx (y := (⟨"java/lang/Integer", "valueOf", "(I)Ljava/lang/Integer;"⟩ : MethodName)) hown (mvT hZ (hw _ (List.mem_of_getElem? (i := 27) rfl))) (mvT hZ (hw _ (List.mem_of_getElem? (i := 28) rfl))) (mvT hZ (hw _ (List.mem_of_getElem? (i := 29) rfl))) (mvT hZ (hw _ (List.mem_of_getElem? (i := 30) rfl))) (by decide) (backOf (W := 1) (rm5 l Z a0 hw [] (p3 ^^^ (-1 : Int32)) ca cc T126.heap n0 z141 f128 Sh Sc Bc) hZ (hw _ (List.mem_of_getElem? (i := 30) rfl)) (hw _ (List.mem_of_getElem? (i := 29) rfl)) (by decide) (by decide)) (g := (mkF m 105 #[.val (.int p1), .val (.int p2), .val (.int p3), .val (.int p4), .val (.int p5), .val (.int p6), .val (.int N_), .val (.int I_), .val (.int (p3 ^^^ (-1 : Int32))), .val (.int (p4 ^^^ (-1 : Int32))), .val (.ref b1), .unset, .unset] [(.int (p3 ^^^ (-1 : Int32))), (.ref b1)])) rfl (by rw [hml]; rfl) (argsL := [(.int (p3 ^^^ (-1 : Int32)))]) (rest := [(.ref b1)]) (lenOf pd_5 rfl) rfl (by show 2 * 0 + _ ≤ _; exact Nat.le_of_eq rfl) (hb hby at_105) (fun _ _ => ⟨rfl, rfl, (by decide : 6 + 1 ≤ _), (by decide : 11 + 1 ≤ _)⟩)
          dsimp only [Pt.U, Pt.locs, Pt.cells, Pt.slots] at X142 l142 y142 z142 st142 hQ142
          subst l142 y142 z142
          obtain ⟨r142, rfl, N142q, K142, Er142, Fv142⟩ := hQ142
          have N143 := Fr.app N127 N142q
          have f144 := f128.keep K142 all0
          have f145 := f129.keep K142 nin0
          have f146 := f130.keep K142
          have f147 := f131.keep K142
          have f148 := f132.keep K142
          have f149 := f133.keep K142 nin0
          have f150 := f134.keep K142
          have f151 := f135.keep K142
          have f152 := f136.keep K142 nin0
          have f153 := f137.keep K142
          have f154 := f138.keep K142 nin0
          have f155 := f139.keep K142
          have f156 := f140.keep K142 nin0
          have f157 := Fm126.keep K142 nin0
          have f158 := Fe126.keep K142 nin0
          have f159 := Fs126.keep K142 nin0
          have f160 := Va126.keep K142 nin0
          have z161 := Nat.le_trans z141 K142.1
          refine Go.via (S' := T142.setTop (mkF m 108 #[.val (.int p1), .val (.int p2), .val (.int p3), .val (.int p4), .val (.int p5), .val (.int p6), .val (.int N_), .val (.int I_), .val (.int (p3 ^^^ (-1 : Int32))), .val (.int (p4 ^^^ (-1 : Int32))), .val (.ref b1), .unset, .unset] [(.ref r142), (.ref b1)])) (fun _ k => st142 _ k) ?_
          have ne162 : r142 ≠ b1 := ne_exa Er142 f147 (by decide)
          obtain ⟨aq164c, aq164, -⟩ := id f160
          have ne163 : r142 ≠ ar31 := ne_arr Er142 (hw _ (List.mem_of_getElem? (i := 90) rfl)) aq164
          obtain ⟨cq165, kq165, q165a, q165b, q165c⟩ := isOf hZ rfl f147
          obtain ⟨_, _, ⟨T165, L165, k165, n165⟩, -, X165, ⟨Lc165, hQ165, l165, y165, z165⟩, st165⟩ := X142.virtualBack hx (y := (⟨"com/example/tidegraph/tidegraph/graph/ElementList", "append", "(Ljava/lang/Object;)V"⟩ : MethodName)) (z := (⟨"com/example/tidegraph/tidegraph/graph/ElementList", "append", "(Ljava/lang/Object;)V"⟩ : MethodName)) hown (mvT hZ (hw _ (List.mem_of_getElem? (i := 34) rfl))) (mvT hZ (hw _ (List.mem_of_getElem? (i := 35) rfl))) (notFace_of_selects (args := #[]) (mvT hZ (hw _ (List.mem_of_getElem? (i := 37) rfl)))) (mvT hZ (hw _ (List.mem_of_getElem? (i := 37) rfl))) (mvT hZ (hw _ (List.mem_of_getElem? (i := 36) rfl))) (by decide) (backOf (W := 0) (rm6m4 l Z a0 hw [] b1 r142 ar31 k231 (((((0 : Int32) + 1) + 1) + 1) + 1) mr r18 r43 r72 r105 T142.heap n0 z161 f147 f157 f158 f159 g3 f160 f150 (Ne.symm ne40) Er142 ne162 ne163 f148 f151 f153 f155 Mr) hZ (hw _ (List.mem_of_getElem? (i := 38) rfl)) (hw _ (List.mem_of_getElem? (i := 3) rfl)) (by decide) (by decide)) q165a q165c (g := (mkF m 108 #[.val (.int p1), .val (.int p2), .val (.int p3), .val (.int p4), .val (.int p5), .val (.int p6), .val (.int N_), .val (.int I_), .val (.int (p3 ^^^ (-1 : Int32))), .val (.int (p4 ^^^ (-1 : Int32))), .val (.ref b1), .unset, .unset] [(.ref r142), (.ref b1)])) rfl (by rw [hml]; rfl) (Steps.refl _) (argsL := [(.ref r142)]) (rest := []) (lenOf pd_6 rfl) rfl (by show 2 * 0 + _ ≤ _; exact Nat.le_of_eq rfl) (hb hby at_108) (fun _ _ => ⟨rfl, rfl, (by decide : 7 + 1 ≤ _), (by decide : 12 + 8 ≤ _)⟩)
          dsimp only [Pt.U, Pt.locs, Pt.cells, Pt.slots] at X165 l165 y165 z165 st165 hQ165
          subst l165 y165 z165
          obtain ⟨rfl, N165q, K165, ar165, k2165, u1165, u2165, Ex165, Ov165, Fm165, Fe165, Fs165, Va165⟩ := hQ165
          have N166 := Fr.app N143 N165q
          have f167 := f144.keep K165 (allS g3 all0)
          have f168 := f145.keep K165 (ninS ne2 nin0)
          have f169 := f146.keep K165
          have f170 := f147.keep K165
          have f171 := f148.keep K165
          have f172 := f149.keep K165 (ninS ne28 nin0)
          have f173 := f150.keep K165
          have f174 := f151.keep K165
          have f175 := f152.keep K165 (ninS ne57 nin0)
          have f176 := f153.keep K165
          have f177 := f154.keep K165 (ninS ne88 nin0)
          have f178 := f155.keep K165
          have f179 := f156.keep K165 (ninS ne123 nin0)
          have f180 := f160.keep K165 (ninS (Ne.symm ne40) nin0)
          have f181 := Er142.keep K165
          have f182 := Fv142.keep K165 (ninS ne162 nin0)
          have z183 := Nat.le_trans z161 K165.1
          refine Go.via (S' := T165.setTop (mkF m 111 #[.val (.int p1), .val (.int p2), .val (.int p3), .val (.int p4), .val (.int p5), .val (.int p6), .val (.int N_), .val (.int I_), .val (.int (p3 ^^^ (-1 : Int32))), .val (.int (p4 ^^^ (-1 : Int32))), .val (.ref b1), .unset, .unset] [])) (fun _ k => st165.trans k) ?_
          have ne184 : ar31 ≠ ar165 := Nat.ne_of_lt (Nat.lt_of_lt_of_le f150.lt u2165)
          have ne185 : b1 ≠ ar165 := Nat.ne_of_lt (Nat.lt_of_lt_of_le f147.lt u2165)
          have ne186 : na ≠ ar165 := Nat.ne_of_lt (Nat.lt_of_lt_of_le f145.lt u2165)
          have ne187 : r105 ≠ ar165 := Nat.ne_of_lt (Nat.lt_of_lt_of_le f155.lt u2165)
          have ne188 : r142 ≠ ar165 := Nat.ne_of_lt (Nat.lt_of_lt_of_le Er142.lt u2165)
          have ne189 : r18 ≠ ar165 := Nat.ne_of_lt (Nat.lt_of_lt_of_le f148.lt u2165)
          have ne190 : r43 ≠ ar165 := Nat.ne_of_lt (Nat.lt_of_lt_of_le f151.lt u2165)
          have ne191 : r72 ≠ ar165 := Nat.ne_of_lt (Nat.lt_of_lt_of_le f153.lt u2165)
          refine Go.via (S' := T165.setTop (mkF m 113 #[.val (.int p1), .val (.int p2), .val (.int p3), .val (.int p4), .val (.int p5), .val (.int p6), .val (.int N_), .val (.int I_), .val (.int (p3 ^^^ (-1 : Int32))), .val (.int (p4 ^^^ (-1 : Int32))), .val (.ref b1), .unset, .unset] [(.int N_)])) (fun _ k => XS.iload X165.here hx rfl (hb hby at_111) rfl k) ?_
          refine Go.via (S' := T165.setTop (mkF m 114 #[.val (.int p1), .val (.int p2), .val (.int p3), .val (.int p4), .val (.int p5), .val (.int p6), .val (.int N_), .val (.int I_), .val (.int (p3 ^^^ (-1 : Int32))), .val (.int (p4 ^^^ (-1 : Int32))), .val (.ref b1), .unset, .unset] [(.int (5 : Int32)), (.int N_)])) (fun _ k => XS.iconst X165.here hx rfl (hb hby at_113) k) ?_
          rcases Decidable.em ((5 : Int32) < N_) with hc114 | hc114
          · refine Go.via (S' := T165.setTop (mkF m 117 #[.val (.int p1), .val (.int p2), .val (.int p3), .val (.int p4), .val (.int p5), .val (.int p6), .val (.int N_), .val (.int I_), .val (.int (p3 ^^^ (-1 : Int32))), .val (.int (p4 ^^^ (-1 : Int32))), .val (.ref b1), .unset, .unset] [])) (fun _ k => XS.icmpNo X165.here hx rfl (hb hby at_114) rfl (tlt hc114).2.2.2 k) ?_
            refine Go.via (S' := T165.setTop (mkF m 119 #[.val (.int p1), .val (.int p2), .val (.int p3), .val (.int p4), .val (.int p5), .val (.int p6), .val (.int N_), .val (.int I_), .val (.int (p3 ^^^ (-1 : Int32))), .val (.int (p4 ^^^ (-1 : Int32))), .val (.ref b1), .unset, .unset] [(.ref b1)])) (fun _ k => XS.aload X165.here hx rfl (hb hby at_117) rfl rfl k) ?_
            refine Go.via (S' := T165.setTop (mkF m 121 #[.val (.int p1), .val (.int p2), .val (.int p3), .val (.int p4), .val (.int p5), .val (.int p6), .val (.int N_), .val (.int I_), .val (.int (p3 ^^^ (-1 : Int32))), .val (.int (p4 ^^^ (-1 : Int32))), .val (.ref b1), .unset, .unset] [(.int (p4 ^^^ (-1 : Int32))), (.ref b1)])) (fun _ k => XS.iload X165.here hx rfl (hb hby at_119) rfl k) ?_
            obtain ⟨_, _, ⟨T192, L192, k192, n192⟩, -, X192, ⟨Lc192, hQ192, l192, y192, z192⟩, st192⟩ := Jvm.LawKit.callS X165 hx (y := (⟨"java/lang/Integer", "valueOf", "(I)Ljava/lang/Integer;"⟩ : MethodName)) hown (mvT hZ (hw _ (List.mem_of_getElem? (i := 27) rfl))) (mvT hZ (hw _ (List.mem_of_getElem? (i := 28) rfl))) (mvT hZ (hw _ (List.mem_of_getElem? (i := 29) rfl))) (mvT hZ (hw _ (List.mem_of_getElem? (i := 30) rfl))) (by decide) (backOf (W := 1) (rm5 l Z a0 hw [] (p4 ^^^ (-1 : Int32)) ca cc T165.heap n0 z183 f167 Sh Sc Bc) hZ (hw _ (List.mem_of_getElem? (i := 30) rfl)) (hw _ (List.mem_of_getElem? (i := 29) rfl)) (by decide) (by decide)) (g := (mkF m 121 #[.val (.int p1), .val (.int p2), .val (.int p3), .val (.int p4), .val (.int p5), .val (.int p6), .val (.int N_), .val (.int I_), .val (.int (p3 ^^^ (-1 : Int32))), .val (.int (p4 ^^^ (-1 : Int32))), .val (.ref b1), .unset, .unset] [(.int (p4 ^^^ (-1 : Int32))), (.ref b1)])) rfl (by rw [hml]; rfl) (argsL := [(.int (p4 ^^^ (-1 : Int32)))]) (rest := [(.ref b1)]) (lenOf pd_5 rfl) rfl (by show 2 * 0 + _ ≤ _; exact Nat.le_of_eq rfl) (hb hby at_121) (fun _ _ => ⟨rfl, rfl, (by decide : 8 + 1 ≤ _), (by decide : 20 + 1 ≤ _)⟩)
            dsimp only [Pt.U, Pt.locs, Pt.cells, Pt.slots] at X192 l192 y192 z192 st192 hQ192
            subst l192 y192 z192
            obtain ⟨r192, rfl, N192q, K192, Er192, Fv192⟩ := hQ192
            have N193 := Fr.app N166 N192q
            have f194 := f167.keep K192 all0
            have f195 := f168.keep K192 nin0
            have f196 := f169.keep K192
            have f197 := f170.keep K192
            have f198 := f171.keep K192
            have f199 := f172.keep K192 nin0
            have f200 := f173.keep K192
            have f201 := f174.keep K192
            have f202 := f175.keep K192 nin0
            have f203 := f176.keep K192
            have f204 := f177.keep K192 nin0
            have f205 := f178.keep K192
            have f206 := f179.keep K192 nin0
            have f207 := f180.keep K192 nin0
            have f208 := f181.keep K192
            have f209 := f182.keep K192 nin0
            have f210 := Fm165.keep K192 nin0
            have f211 := Ex165.keep K192
            have f212 := Fe165.keep K192 nin0
            have f213 := Fs165.keep K192 nin0
            have f214 := Va165.keep K192 nin0
            have z215 := Nat.le_trans z183 K192.1
            refine Go.via (S' := T192.setTop (mkF m 124 #[.val (.int p1), .val (.int p2), .val (.int p3), .val (.int p4), .val (.int p5), .val (.int p6), .val (.int N_), .val (.int I_), .val (.int (p3 ^^^ (-1 : Int32))), .val (.int (p4 ^^^ (-1 : Int32))), .val (.ref b1), .unset, .unset] [(.ref r192), (.ref b1)])) (fun _ k => st192 _ k) ?_
            have ne216 : r192 ≠ b1 := ne_exa Er192 f197 (by decide)
            obtain ⟨aq218c, aq218, -⟩ := id f214
            have ne217 : r192 ≠ ar165 := ne_arr Er192 (hw _ (List.mem_of_getElem? (i := 90) rfl)) aq218
            obtain ⟨cq219, kq219, q219a, q219b, q219c⟩ := isOf hZ rfl f197
            obtain ⟨_, _, ⟨T219, L219, k219, n219⟩, -, X219, ⟨Lc219, hQ219, l219, y219, z219⟩, st219⟩ := X192.virtualBack hx (y := (⟨"com/example/tidegraph/tidegraph/graph/ElementList", "append", "(Ljava/lang/Object;)V"⟩ : MethodName)) (z := (⟨"com/example/tidegraph/tidegraph/graph/ElementList", "append", "(Ljava/lang/Object;)V"⟩ : MethodName)) hown (mvT hZ (hw _ (List.mem_of_getElem? (i := 34) rfl))) (mvT hZ (hw _ (List.mem_of_getElem? (i := 35) rfl))) (notFace_of_selects (args := #[]) (mvT hZ (hw _ (List.mem_of_getElem? (i := 37) rfl)))) (mvT hZ (hw _ (List.mem_of_getElem? (i := 37) rfl))) (mvT hZ (hw _ (List.mem_of_getElem? (i := 36) rfl))) (by decide) (backOf (W := 0) (rm6m5 l Z a0 hw [] b1 r192 ar165 k2165 ((((((0 : Int32) + 1) + 1) + 1) + 1) + 1) mr r18 r43 r72 r105 r142 T192.heap n0 z215 f197 f210 f212 f213 g3 f214 f211 (Ne.symm ne185) Er192 ne216 ne217 Ov165 u1165) hZ (hw _ (List.mem_of_getElem? (i := 38) rfl)) (hw _ (List.mem_of_getElem? (i := 3) rfl)) (by decide) (by decide)) q219a q219c (g := (mkF m 124 #[.val (.int p1), .val (.int p2), .val (.int p3), .val (.int p4), .val (.int p5), .val (.int p6), .val (.int N_), .val (.int I_), .val (.int (p3 ^^^ (-1 : Int32))), .val (.int (p4 ^^^ (-1 : Int32))), .val (.ref b1), .unset, .unset] [(.ref r192), (.ref b1)])) rfl (by rw [hml]; rfl) (Steps.refl _) (argsL := [(.ref r192)]) (rest := []) (lenOf pd_6 rfl) rfl (by show 2 * 0 + _ ≤ _; exact Nat.le_of_eq rfl) (hb hby at_124) (fun _ _ => ⟨rfl, rfl, (by decide : 9 + 0 ≤ _), (by decide : 21 + 0 ≤ _)⟩)
            dsimp only [Pt.U, Pt.locs, Pt.cells, Pt.slots] at X219 l219 y219 z219 st219 hQ219
            subst l219 y219 z219
            obtain ⟨rfl, N219q, K219, Fm219, Fe219, Fs219, Va219⟩ := hQ219
            have N220 := Fr.app N193 N219q
            have f221 := f194.keep K219 (allS g3 (allS u1165 all0))
            have f222 := f195.keep K219 (ninS ne2 (ninS ne186 nin0))
            have f223 := f196.keep K219
            have f224 := f197.keep K219
            have f225 := f198.keep K219
            have f226 := f199.keep K219 (ninS ne28 (ninS ne189 nin0))
            have f227 := f200.keep K219
            have f228 := f201.keep K219
            have f229 := f202.keep K219 (ninS ne57 (ninS ne190 nin0))
            have f230 := f203.keep K219
            have f231 := f204.keep K219 (ninS ne88 (ninS ne191 nin0))
            have f232 := f205.keep K219
            have f233 := f206.keep K219 (ninS ne123 (ninS ne187 nin0))
            have f234 := f207.keep K219 (ninS (Ne.symm ne40) (ninS ne184 nin0))
            have f235 := f208.keep K219
            have f236 := f209.keep K219 (ninS ne162 (ninS ne188 nin0))
            have f237 := f211.keep K219
            have f238 := Er192.keep K219
            have f239 := Fv192.keep K219 (ninS ne216 (ninS ne217 nin0))
            have z240 := Nat.le_trans z215 K219.1
            refine Go.via (S' := T219.setTop (mkF m 127 #[.val (.int p1), .val (.int p2), .val (.int p3), .val (.int p4), .val (.int p5), .val (.int p6), .val (.int N_), .val (.int I_), .val (.int (p3 ^^^ (-1 : Int32))), .val (.int (p4 ^^^ (-1 : Int32))), .val (.ref b1), .unset, .unset] [])) (fun _ k => st219.trans k) ?_
            have hm : I_.toInt < 6 := by
              have t51 : 1 < N_.toInt := by rw [Int32.lt_iff_toInt_lt] at hc51; exact hc51
              have t66 : 2 < N_.toInt := by rw [Int32.lt_iff_toInt_lt] at hc66; exact hc66
              have t82 : 3 < N_.toInt := by rw [Int32.lt_iff_toInt_lt] at hc82; exact hc82
              have t98 : 4 < N_.toInt := by rw [Int32.lt_iff_toInt_lt] at hc98; exact hc98
              have t114 : 5 < N_.toInt := by rw [Int32.lt_iff_toInt_lt] at hc114; exact hc114
              have := hN.2
              have := hI.2
              omega
            rcases (by have := hI.1; omega : I_.toInt = 0 ∨ I_.toInt = 1 ∨ I_.toInt = 2 ∨ I_.toInt = 3 ∨ I_.toInt = 4 ∨ I_.toInt = 5) with hi | hi | hi | hi | hi | hi
            · obtain rfl : I_ = (0 : Int32) := Int32.toInt_inj.mp hi
              refine Go.via (S' := T219.setTop (mkF m 129 #[.val (.int p1), .val (.int p2), .val (.int p3), .val (.int p4), .val (.int p5), .val (.int p6), .val (.int N_), .val (.int (0 : Int32)), .val (.int (p3 ^^^ (-1 : Int32))), .val (.int (p4 ^^^ (-1 : Int32))), .val (.ref b1), .unset, .unset] [(.int (0 : Int32))])) (fun _ k => XS.iload X219.here hx rfl (hb hby at_127) rfl k) ?_
              refine Go.via (S' := T219.setTop (mkF m 130 #[.val (.int p1), .val (.int p2), .val (.int p3), .val (.int p4), .val (.int p5), .val (.int p6), .val (.int N_), .val (.int (0 : Int32)), .val (.int (p3 ^^^ (-1 : Int32))), .val (.int (p4 ^^^ (-1 : Int32))), .val (.ref b1), .unset, .unset] [(.int p3), (.int (0 : Int32))])) (fun _ k => XS.iloadN X219.here hx rfl (hb hby at_129) rfl k) ?_
              refine Go.via (S' := T219.setTop (mkF m 131 #[.val (.int p1), .val (.int p2), .val (.int p3), .val (.int p4), .val (.int p5), .val (.int p6), .val (.int N_), .val (.int (0 : Int32)), .val (.int (p3 ^^^ (-1 : Int32))), .val (.int (p4 ^^^ (-1 : Int32))), .val (.ref b1), .unset, .unset] [(.int p4), (.int p3), (.int (0 : Int32))])) (fun _ k => XS.iloadN X219.here hx rfl (hb hby at_130) rfl k) ?_
              refine Go.via (S' := T219.setTop (mkF m 133 #[.val (.int p1), .val (.int p2), .val (.int p3), .val (.int p4), .val (.int p5), .val (.int p6), .val (.int N_), .val (.int (0 : Int32)), .val (.int (p3 ^^^ (-1 : Int32))), .val (.int (p4 ^^^ (-1 : Int32))), .val (.ref b1), .unset, .unset] [(.int p5), (.int p4), (.int p3), (.int (0 : Int32))])) (fun _ k => XS.iload X219.here hx rfl (hb hby at_131) rfl k) ?_
              refine Go.via (S' := T219.setTop (mkF m 135 #[.val (.int p1), .val (.int p2), .val (.int p3), .val (.int p4), .val (.int p5), .val (.int p6), .val (.int N_), .val (.int (0 : Int32)), .val (.int (p3 ^^^ (-1 : Int32))), .val (.int (p4 ^^^ (-1 : Int32))), .val (.ref b1), .unset, .unset] [(.int p6), (.int p5), (.int p4), (.int p3), (.int (0 : Int32))])) (fun _ k => XS.iload X219.here hx rfl (hb hby at_133) rfl k) ?_
              refine Go.via (S' := T219.setTop (mkF m 137 #[.val (.int p1), .val (.int p2), .val (.int p3), .val (.int p4), .val (.int p5), .val (.int p6), .val (.int N_), .val (.int (0 : Int32)), .val (.int (p3 ^^^ (-1 : Int32))), .val (.int (p4 ^^^ (-1 : Int32))), .val (.ref b1), .unset, .unset] [(.int (p3 ^^^ (-1 : Int32))), (.int p6), (.int p5), (.int p4), (.int p3), (.int (0 : Int32))])) (fun _ k => XS.iload X219.here hx rfl (hb hby at_135) rfl k) ?_
              refine Go.via (S' := T219.setTop (mkF m 139 #[.val (.int p1), .val (.int p2), .val (.int p3), .val (.int p4), .val (.int p5), .val (.int p6), .val (.int N_), .val (.int (0 : Int32)), .val (.int (p3 ^^^ (-1 : Int32))), .val (.int (p4 ^^^ (-1 : Int32))), .val (.ref b1), .unset, .unset] [(.int (p4 ^^^ (-1 : Int32))), (.int (p3 ^^^ (-1 : Int32))), (.int p6), (.int p5), (.int p4), (.int p3), (.int (0 : Int32))])) (fun _ k => XS.iload X219.here hx rfl (hb hby at_137) rfl k) ?_
              obtain ⟨_, _, ⟨T241, L241, k241, n241⟩, -, X241, ⟨Lc241, hQ241, l241, y241, z241⟩, st241⟩ := Jvm.LawKit.callS X219 hx (y := (⟨"com/example/tidegraph/tidegraph/graph/ElementListGetPinLaw", "expectedAt", "(IIIIIII)I"⟩ : MethodName)) hown (mvT hZ (hw _ (List.mem_of_getElem? (i := 71) rfl))) (mvT hZ (hw _ (List.mem_of_getElem? (i := 72) rfl))) (mvT hZ (hw _ (List.mem_of_getElem? (i := 73) rfl))) (mvT hZ (hw _ (List.mem_of_getElem? (i := 74) rfl))) (by decide) (backOf (W := 0) (rm11 l Z a0 hw [] (0 : Int32) p3 p4 p5 p6 (p3 ^^^ (-1 : Int32)) (p4 ^^^ (-1 : Int32)) T219.heap n0 z240) hZ (hw _ (List.mem_of_getElem? (i := 74) rfl)) (hw _ (List.mem_of_getElem? (i := 73) rfl)) (by decide) (by decide)) (g := (mkF m 139 #[.val (.int p1), .val (.int p2), .val (.int p3), .val (.int p4), .val (.int p5), .val (.int p6), .val (.int N_), .val (.int (0 : Int32)), .val (.int (p3 ^^^ (-1 : Int32))), .val (.int (p4 ^^^ (-1 : Int32))), .val (.ref b1), .unset, .unset] [(.int (p4 ^^^ (-1 : Int32))), (.int (p3 ^^^ (-1 : Int32))), (.int p6), (.int p5), (.int p4), (.int p3), (.int (0 : Int32))])) rfl (by rw [hml]; rfl) (argsL := [(.int (0 : Int32)), (.int p3), (.int p4), (.int p5), (.int p6), (.int (p3 ^^^ (-1 : Int32))), (.int (p4 ^^^ (-1 : Int32)))]) (rest := []) (lenOf pd_7 rfl) rfl (by show 2 * 0 + _ ≤ _; exact Nat.le_of_eq rfl) (hb hby at_139) (fun _ _ => ⟨rfl, rfl, (by decide : 9 + 0 ≤ _), (by decide : 21 + 0 ≤ _)⟩)
              dsimp only [Pt.U, Pt.locs, Pt.cells, Pt.slots] at X241 l241 y241 z241 st241 hQ241
              subst l241 y241 z241
              obtain ⟨rfl, N241q, e241⟩ := hQ241
              have N242 := Fr.app N220 N241q
              refine Go.via (S' := T241.setTop (mkF m 142 #[.val (.int p1), .val (.int p2), .val (.int p3), .val (.int p4), .val (.int p5), .val (.int p6), .val (.int N_), .val (.int (0 : Int32)), .val (.int (p3 ^^^ (-1 : Int32))), .val (.int (p4 ^^^ (-1 : Int32))), .val (.ref b1), .unset, .unset] [(.int (own_at (0 : Int32) p3 p4 p5 p6 (p3 ^^^ (-1 : Int32)) (p4 ^^^ (-1 : Int32))))])) (fun _ k => st241 _ k) ?_
              refine Go.via (S' := T241.setTop (mkF m 144 #[.val (.int p1), .val (.int p2), .val (.int p3), .val (.int p4), .val (.int p5), .val (.int p6), .val (.int N_), .val (.int (0 : Int32)), .val (.int (p3 ^^^ (-1 : Int32))), .val (.int (p4 ^^^ (-1 : Int32))), .val (.ref b1), .val (.int (own_at (0 : Int32) p3 p4 p5 p6 (p3 ^^^ (-1 : Int32)) (p4 ^^^ (-1 : Int32)))), .unset] [])) (fun _ k => XS.istore X241.here hx rfl (hb hby at_142) rfl (l' := #[.val (.int p1), .val (.int p2), .val (.int p3), .val (.int p4), .val (.int p5), .val (.int p6), .val (.int N_), .val (.int (0 : Int32)), .val (.int (p3 ^^^ (-1 : Int32))), .val (.int (p4 ^^^ (-1 : Int32))), .val (.ref b1), .val (.int (own_at (0 : Int32) p3 p4 p5 p6 (p3 ^^^ (-1 : Int32)) (p4 ^^^ (-1 : Int32)))), .unset]) rfl k) ?_
              refine Go.via (S' := T241.setTop (mkF m 146 #[.val (.int p1), .val (.int p2), .val (.int p3), .val (.int p4), .val (.int p5), .val (.int p6), .val (.int N_), .val (.int (0 : Int32)), .val (.int (p3 ^^^ (-1 : Int32))), .val (.int (p4 ^^^ (-1 : Int32))), .val (.ref b1), .val (.int (own_at (0 : Int32) p3 p4 p5 p6 (p3 ^^^ (-1 : Int32)) (p4 ^^^ (-1 : Int32)))), .unset] [(.ref b1)])) (fun _ k => XS.aload X241.here hx rfl (hb hby at_144) rfl rfl k) ?_
              refine Go.via (S' := T241.setTop (mkF m 148 #[.val (.int p1), .val (.int p2), .val (.int p3), .val (.int p4), .val (.int p5), .val (.int p6), .val (.int N_), .val (.int (0 : Int32)), .val (.int (p3 ^^^ (-1 : Int32))), .val (.int (p4 ^^^ (-1 : Int32))), .val (.ref b1), .val (.int (own_at (0 : Int32) p3 p4 p5 p6 (p3 ^^^ (-1 : Int32)) (p4 ^^^ (-1 : Int32)))), .unset] [(.int (0 : Int32)), (.ref b1)])) (fun _ k => XS.iload X241.here hx rfl (hb hby at_146) rfl k) ?_
              obtain ⟨cq243, kq243, q243a, q243b, q243c⟩ := isOf hZ e241 f224
              obtain ⟨_, _, ⟨T243, L243, k243, n243⟩, -, X243, ⟨Lc243, hQ243, l243, y243, z243⟩, st243⟩ := X241.virtualBack hx (y := (⟨"com/example/tidegraph/tidegraph/graph/ElementList", "get", "(I)Ljava/lang/Object;"⟩ : MethodName)) (z := (⟨"com/example/tidegraph/tidegraph/graph/ElementList", "get", "(I)Ljava/lang/Object;"⟩ : MethodName)) hown (mvT hZ (hw _ (List.mem_of_getElem? (i := 75) rfl))) (mvT hZ (hw _ (List.mem_of_getElem? (i := 76) rfl))) (notFace_of_selects (args := #[]) (mvT hZ (hw _ (List.mem_of_getElem? (i := 78) rfl)))) (mvT hZ (hw _ (List.mem_of_getElem? (i := 78) rfl))) (mvT hZ (hw _ (List.mem_of_getElem? (i := 77) rfl))) (by decide) (backOf (W := 0) (rm12 l Z a0 hw [] b1 (0 : Int32) ar165 k2165 (8 : Int32) [(.ref r18), (.ref r43), (.ref r72), (.ref r105), (.ref r142), (.ref r192), .null, .null] (6 : Int32) r18 T219.heap n0 z240 Fe219 Fs219 Va219 (by decide) (by decide) rfl) hZ (hw _ (List.mem_of_getElem? (i := 79) rfl)) (hw _ (List.mem_of_getElem? (i := 3) rfl)) (by decide) (by decide)) q243a q243c (g := (mkF m 148 #[.val (.int p1), .val (.int p2), .val (.int p3), .val (.int p4), .val (.int p5), .val (.int p6), .val (.int N_), .val (.int (0 : Int32)), .val (.int (p3 ^^^ (-1 : Int32))), .val (.int (p4 ^^^ (-1 : Int32))), .val (.ref b1), .val (.int (own_at (0 : Int32) p3 p4 p5 p6 (p3 ^^^ (-1 : Int32)) (p4 ^^^ (-1 : Int32)))), .unset] [(.int (0 : Int32)), (.ref b1)])) rfl (by rw [hml]; rfl) (Steps.refl _) (argsL := [(.int (0 : Int32))]) (rest := []) (lenOf pd_8 rfl) rfl (by show 2 * 0 + _ ≤ _; exact Nat.le_of_eq rfl) (hb hby at_148) (fun _ _ => ⟨rfl, e241, (by decide : 9 + 0 ≤ _), (by decide : 21 + 0 ≤ _)⟩)
              dsimp only [Pt.U, Pt.locs, Pt.cells, Pt.slots] at X243 l243 y243 z243 st243 hQ243
              subst l243 y243 z243
              obtain ⟨rfl, N243q, e243⟩ := hQ243
              have N244 := Fr.app N242 N243q
              refine Go.via (S' := T243.setTop (mkF m 151 #[.val (.int p1), .val (.int p2), .val (.int p3), .val (.int p4), .val (.int p5), .val (.int p6), .val (.int N_), .val (.int (0 : Int32)), .val (.int (p3 ^^^ (-1 : Int32))), .val (.int (p4 ^^^ (-1 : Int32))), .val (.ref b1), .val (.int (own_at (0 : Int32) p3 p4 p5 p6 (p3 ^^^ (-1 : Int32)) (p4 ^^^ (-1 : Int32)))), .unset] [(.ref r18)])) (fun _ k => st243.trans k) ?_
              obtain ⟨T245, X245, e245, st245⟩ := castY X243 hx hZ hown (hw _ (List.mem_of_getElem? (i := 80) rfl)) e243 (Ins.self f225) (g := (mkF m 151 #[.val (.int p1), .val (.int p2), .val (.int p3), .val (.int p4), .val (.int p5), .val (.int p6), .val (.int N_), .val (.int (0 : Int32)), .val (.int (p3 ^^^ (-1 : Int32))), .val (.int (p4 ^^^ (-1 : Int32))), .val (.ref b1), .val (.int (own_at (0 : Int32) p3 p4 p5 p6 (p3 ^^^ (-1 : Int32)) (p4 ^^^ (-1 : Int32)))), .unset] [(.ref r18)])) rfl rfl (hb hby at_151)
              refine Go.via (S' := T245.setTop (mkF m 154 #[.val (.int p1), .val (.int p2), .val (.int p3), .val (.int p4), .val (.int p5), .val (.int p6), .val (.int N_), .val (.int (0 : Int32)), .val (.int (p3 ^^^ (-1 : Int32))), .val (.int (p4 ^^^ (-1 : Int32))), .val (.ref b1), .val (.int (own_at (0 : Int32) p3 p4 p5 p6 (p3 ^^^ (-1 : Int32)) (p4 ^^^ (-1 : Int32)))), .unset] [(.ref r18)])) (fun _ k => st245 _ k) ?_
              refine Go.via (S' := T245.setTop (mkF m 156 #[.val (.int p1), .val (.int p2), .val (.int p3), .val (.int p4), .val (.int p5), .val (.int p6), .val (.int N_), .val (.int (0 : Int32)), .val (.int (p3 ^^^ (-1 : Int32))), .val (.int (p4 ^^^ (-1 : Int32))), .val (.ref b1), .val (.int (own_at (0 : Int32) p3 p4 p5 p6 (p3 ^^^ (-1 : Int32)) (p4 ^^^ (-1 : Int32)))), .val (.ref r18)] [])) (fun _ k => XS.astore X245.here hx rfl (hb hby at_154) rfl rfl (l' := #[.val (.int p1), .val (.int p2), .val (.int p3), .val (.int p4), .val (.int p5), .val (.int p6), .val (.int N_), .val (.int (0 : Int32)), .val (.int (p3 ^^^ (-1 : Int32))), .val (.int (p4 ^^^ (-1 : Int32))), .val (.ref b1), .val (.int (own_at (0 : Int32) p3 p4 p5 p6 (p3 ^^^ (-1 : Int32)) (p4 ^^^ (-1 : Int32)))), .val (.ref r18)]) rfl k) ?_
              refine Go.via (S' := T245.setTop (mkF m 158 #[.val (.int p1), .val (.int p2), .val (.int p3), .val (.int p4), .val (.int p5), .val (.int p6), .val (.int N_), .val (.int (0 : Int32)), .val (.int (p3 ^^^ (-1 : Int32))), .val (.int (p4 ^^^ (-1 : Int32))), .val (.ref b1), .val (.int (own_at (0 : Int32) p3 p4 p5 p6 (p3 ^^^ (-1 : Int32)) (p4 ^^^ (-1 : Int32)))), .val (.ref r18)] [(.ref r18)])) (fun _ k => XS.aload X245.here hx rfl (hb hby at_156) rfl rfl k) ?_
              refine Go.via (S' := T245.setTop (mkF m 163 #[.val (.int p1), .val (.int p2), .val (.int p3), .val (.int p4), .val (.int p5), .val (.int p6), .val (.int N_), .val (.int (0 : Int32)), .val (.int (p3 ^^^ (-1 : Int32))), .val (.int (p4 ^^^ (-1 : Int32))), .val (.ref b1), .val (.int (own_at (0 : Int32) p3 p4 p5 p6 (p3 ^^^ (-1 : Int32)) (p4 ^^^ (-1 : Int32)))), .val (.ref r18)] [])) (fun _ k => XS.ifnonnullYes X245.here hx rfl (pc0 := 158) (pc' := 163) rfl (hb hby at_158) rfl (by decide) (by decide) k) ?_
              refine Go.via (S' := T245.setTop (mkF m 165 #[.val (.int p1), .val (.int p2), .val (.int p3), .val (.int p4), .val (.int p5), .val (.int p6), .val (.int N_), .val (.int (0 : Int32)), .val (.int (p3 ^^^ (-1 : Int32))), .val (.int (p4 ^^^ (-1 : Int32))), .val (.ref b1), .val (.int (own_at (0 : Int32) p3 p4 p5 p6 (p3 ^^^ (-1 : Int32)) (p4 ^^^ (-1 : Int32)))), .val (.ref r18)] [(.ref r18)])) (fun _ k => XS.aload X245.here hx rfl (hb hby at_163) rfl rfl k) ?_
              obtain ⟨cq246, kq246, q246a, q246b, q246c⟩ := isOf hZ e245 f225
              obtain ⟨_, _, ⟨T246, L246, k246, n246⟩, -, X246, ⟨Lc246, hQ246, l246, y246, z246⟩, st246⟩ := X245.virtualBack hx (y := (⟨"java/lang/Integer", "intValue", "()I"⟩ : MethodName)) (z := (⟨"java/lang/Integer", "intValue", "()I"⟩ : MethodName)) hown (mvT hZ (hw _ (List.mem_of_getElem? (i := 82) rfl))) (mvT hZ (hw _ (List.mem_of_getElem? (i := 83) rfl))) (notFace_of_selects (args := #[]) (mvT hZ (hw _ (List.mem_of_getElem? (i := 85) rfl)))) (mvT hZ (hw _ (List.mem_of_getElem? (i := 85) rfl))) (mvT hZ (hw _ (List.mem_of_getElem? (i := 84) rfl))) (by decide) (backOf (W := 0) (rm13 l Z a0 hw [] r18 p3 T219.heap n0 z240 f226) hZ (hw _ (List.mem_of_getElem? (i := 86) rfl)) (hw _ (List.mem_of_getElem? (i := 29) rfl)) (by decide) (by decide)) q246a q246c (g := (mkF m 165 #[.val (.int p1), .val (.int p2), .val (.int p3), .val (.int p4), .val (.int p5), .val (.int p6), .val (.int N_), .val (.int (0 : Int32)), .val (.int (p3 ^^^ (-1 : Int32))), .val (.int (p4 ^^^ (-1 : Int32))), .val (.ref b1), .val (.int (own_at (0 : Int32) p3 p4 p5 p6 (p3 ^^^ (-1 : Int32)) (p4 ^^^ (-1 : Int32)))), .val (.ref r18)] [(.ref r18)])) rfl (by rw [hml]; rfl) (Steps.refl _) (argsL := []) (rest := []) (lenOf pd_9 rfl) rfl (by show 2 * 0 + _ ≤ _; exact Nat.le_of_eq rfl) (hb hby at_165) (fun _ _ => ⟨rfl, e245, (by decide : 9 + 0 ≤ _), (by decide : 21 + 0 ≤ _)⟩)
              dsimp only [Pt.U, Pt.locs, Pt.cells, Pt.slots] at X246 l246 y246 z246 st246 hQ246
              subst l246 y246 z246
              obtain ⟨rfl, N246q, e246⟩ := hQ246
              have N247 := Fr.app N244 N246q
              refine Go.via (S' := T246.setTop (mkF m 168 #[.val (.int p1), .val (.int p2), .val (.int p3), .val (.int p4), .val (.int p5), .val (.int p6), .val (.int N_), .val (.int (0 : Int32)), .val (.int (p3 ^^^ (-1 : Int32))), .val (.int (p4 ^^^ (-1 : Int32))), .val (.ref b1), .val (.int (own_at (0 : Int32) p3 p4 p5 p6 (p3 ^^^ (-1 : Int32)) (p4 ^^^ (-1 : Int32)))), .val (.ref r18)] [(.int p3)])) (fun _ k => st246.trans k) ?_
              refine Go.via (S' := T246.setTop (mkF m 170 #[.val (.int p1), .val (.int p2), .val (.int p3), .val (.int p4), .val (.int p5), .val (.int p6), .val (.int N_), .val (.int (0 : Int32)), .val (.int (p3 ^^^ (-1 : Int32))), .val (.int (p4 ^^^ (-1 : Int32))), .val (.ref b1), .val (.int (own_at (0 : Int32) p3 p4 p5 p6 (p3 ^^^ (-1 : Int32)) (p4 ^^^ (-1 : Int32)))), .val (.ref r18)] [(.int (own_at (0 : Int32) p3 p4 p5 p6 (p3 ^^^ (-1 : Int32)) (p4 ^^^ (-1 : Int32)))), (.int p3)])) (fun _ k => XS.iload X246.here hx rfl (hb hby at_168) rfl k) ?_
              refine Go.via (S' := T246.setTop (mkF m 173 #[.val (.int p1), .val (.int p2), .val (.int p3), .val (.int p4), .val (.int p5), .val (.int p6), .val (.int N_), .val (.int (0 : Int32)), .val (.int (p3 ^^^ (-1 : Int32))), .val (.int (p4 ^^^ (-1 : Int32))), .val (.ref b1), .val (.int (own_at (0 : Int32) p3 p4 p5 p6 (p3 ^^^ (-1 : Int32)) (p4 ^^^ (-1 : Int32)))), .val (.ref r18)] [])) (fun _ k => XS.icmpNo X246.here hx rfl (hb hby at_170) rfl (teq (by simp [own_at])).2 k) ?_
              refine Go.via (S' := T246.setTop (mkF m 174 #[.val (.int p1), .val (.int p2), .val (.int p3), .val (.int p4), .val (.int p5), .val (.int p6), .val (.int N_), .val (.int (0 : Int32)), .val (.int (p3 ^^^ (-1 : Int32))), .val (.int (p4 ^^^ (-1 : Int32))), .val (.ref b1), .val (.int (own_at (0 : Int32) p3 p4 p5 p6 (p3 ^^^ (-1 : Int32)) (p4 ^^^ (-1 : Int32)))), .val (.ref r18)] [(.int (1 : Int32))])) (fun _ k => XS.iconst X246.here hx rfl (hb hby at_173) k) ?_
              refine Go.via (S' := T246.setTop (mkF m 178 #[.val (.int p1), .val (.int p2), .val (.int p3), .val (.int p4), .val (.int p5), .val (.int p6), .val (.int N_), .val (.int (0 : Int32)), .val (.int (p3 ^^^ (-1 : Int32))), .val (.int (p4 ^^^ (-1 : Int32))), .val (.ref b1), .val (.int (own_at (0 : Int32) p3 p4 p5 p6 (p3 ^^^ (-1 : Int32)) (p4 ^^^ (-1 : Int32)))), .val (.ref r18)] [(.int (1 : Int32))])) (fun _ k => XS.goto X246.here hx rfl (pc0 := 174) (pc' := 178) rfl (hb hby at_174) (by decide) (by decide) k) ?_
              exact Go.retB X246 hx (BodyLoose.notSynchronized Bd) Bd.returns (hb hby at_178) rfl (by rw [e246]; exact ⟨rfl, N247⟩) (by decide) (by decide)
            · obtain rfl : I_ = (1 : Int32) := Int32.toInt_inj.mp hi
              refine Go.via (S' := T219.setTop (mkF m 129 #[.val (.int p1), .val (.int p2), .val (.int p3), .val (.int p4), .val (.int p5), .val (.int p6), .val (.int N_), .val (.int (1 : Int32)), .val (.int (p3 ^^^ (-1 : Int32))), .val (.int (p4 ^^^ (-1 : Int32))), .val (.ref b1), .unset, .unset] [(.int (1 : Int32))])) (fun _ k => XS.iload X219.here hx rfl (hb hby at_127) rfl k) ?_
              refine Go.via (S' := T219.setTop (mkF m 130 #[.val (.int p1), .val (.int p2), .val (.int p3), .val (.int p4), .val (.int p5), .val (.int p6), .val (.int N_), .val (.int (1 : Int32)), .val (.int (p3 ^^^ (-1 : Int32))), .val (.int (p4 ^^^ (-1 : Int32))), .val (.ref b1), .unset, .unset] [(.int p3), (.int (1 : Int32))])) (fun _ k => XS.iloadN X219.here hx rfl (hb hby at_129) rfl k) ?_
              refine Go.via (S' := T219.setTop (mkF m 131 #[.val (.int p1), .val (.int p2), .val (.int p3), .val (.int p4), .val (.int p5), .val (.int p6), .val (.int N_), .val (.int (1 : Int32)), .val (.int (p3 ^^^ (-1 : Int32))), .val (.int (p4 ^^^ (-1 : Int32))), .val (.ref b1), .unset, .unset] [(.int p4), (.int p3), (.int (1 : Int32))])) (fun _ k => XS.iloadN X219.here hx rfl (hb hby at_130) rfl k) ?_
              refine Go.via (S' := T219.setTop (mkF m 133 #[.val (.int p1), .val (.int p2), .val (.int p3), .val (.int p4), .val (.int p5), .val (.int p6), .val (.int N_), .val (.int (1 : Int32)), .val (.int (p3 ^^^ (-1 : Int32))), .val (.int (p4 ^^^ (-1 : Int32))), .val (.ref b1), .unset, .unset] [(.int p5), (.int p4), (.int p3), (.int (1 : Int32))])) (fun _ k => XS.iload X219.here hx rfl (hb hby at_131) rfl k) ?_
              refine Go.via (S' := T219.setTop (mkF m 135 #[.val (.int p1), .val (.int p2), .val (.int p3), .val (.int p4), .val (.int p5), .val (.int p6), .val (.int N_), .val (.int (1 : Int32)), .val (.int (p3 ^^^ (-1 : Int32))), .val (.int (p4 ^^^ (-1 : Int32))), .val (.ref b1), .unset, .unset] [(.int p6), (.int p5), (.int p4), (.int p3), (.int (1 : Int32))])) (fun _ k => XS.iload X219.here hx rfl (hb hby at_133) rfl k) ?_
              refine Go.via (S' := T219.setTop (mkF m 137 #[.val (.int p1), .val (.int p2), .val (.int p3), .val (.int p4), .val (.int p5), .val (.int p6), .val (.int N_), .val (.int (1 : Int32)), .val (.int (p3 ^^^ (-1 : Int32))), .val (.int (p4 ^^^ (-1 : Int32))), .val (.ref b1), .unset, .unset] [(.int (p3 ^^^ (-1 : Int32))), (.int p6), (.int p5), (.int p4), (.int p3), (.int (1 : Int32))])) (fun _ k => XS.iload X219.here hx rfl (hb hby at_135) rfl k) ?_
              refine Go.via (S' := T219.setTop (mkF m 139 #[.val (.int p1), .val (.int p2), .val (.int p3), .val (.int p4), .val (.int p5), .val (.int p6), .val (.int N_), .val (.int (1 : Int32)), .val (.int (p3 ^^^ (-1 : Int32))), .val (.int (p4 ^^^ (-1 : Int32))), .val (.ref b1), .unset, .unset] [(.int (p4 ^^^ (-1 : Int32))), (.int (p3 ^^^ (-1 : Int32))), (.int p6), (.int p5), (.int p4), (.int p3), (.int (1 : Int32))])) (fun _ k => XS.iload X219.here hx rfl (hb hby at_137) rfl k) ?_
              obtain ⟨_, _, ⟨T248, L248, k248, n248⟩, -, X248, ⟨Lc248, hQ248, l248, y248, z248⟩, st248⟩ := Jvm.LawKit.callS X219 hx (y := (⟨"com/example/tidegraph/tidegraph/graph/ElementListGetPinLaw", "expectedAt", "(IIIIIII)I"⟩ : MethodName)) hown (mvT hZ (hw _ (List.mem_of_getElem? (i := 71) rfl))) (mvT hZ (hw _ (List.mem_of_getElem? (i := 72) rfl))) (mvT hZ (hw _ (List.mem_of_getElem? (i := 73) rfl))) (mvT hZ (hw _ (List.mem_of_getElem? (i := 74) rfl))) (by decide) (backOf (W := 0) (rm11 l Z a0 hw [] (1 : Int32) p3 p4 p5 p6 (p3 ^^^ (-1 : Int32)) (p4 ^^^ (-1 : Int32)) T219.heap n0 z240) hZ (hw _ (List.mem_of_getElem? (i := 74) rfl)) (hw _ (List.mem_of_getElem? (i := 73) rfl)) (by decide) (by decide)) (g := (mkF m 139 #[.val (.int p1), .val (.int p2), .val (.int p3), .val (.int p4), .val (.int p5), .val (.int p6), .val (.int N_), .val (.int (1 : Int32)), .val (.int (p3 ^^^ (-1 : Int32))), .val (.int (p4 ^^^ (-1 : Int32))), .val (.ref b1), .unset, .unset] [(.int (p4 ^^^ (-1 : Int32))), (.int (p3 ^^^ (-1 : Int32))), (.int p6), (.int p5), (.int p4), (.int p3), (.int (1 : Int32))])) rfl (by rw [hml]; rfl) (argsL := [(.int (1 : Int32)), (.int p3), (.int p4), (.int p5), (.int p6), (.int (p3 ^^^ (-1 : Int32))), (.int (p4 ^^^ (-1 : Int32)))]) (rest := []) (lenOf pd_7 rfl) rfl (by show 2 * 0 + _ ≤ _; exact Nat.le_of_eq rfl) (hb hby at_139) (fun _ _ => ⟨rfl, rfl, (by decide : 9 + 0 ≤ _), (by decide : 21 + 0 ≤ _)⟩)
              dsimp only [Pt.U, Pt.locs, Pt.cells, Pt.slots] at X248 l248 y248 z248 st248 hQ248
              subst l248 y248 z248
              obtain ⟨rfl, N248q, e248⟩ := hQ248
              have N249 := Fr.app N220 N248q
              refine Go.via (S' := T248.setTop (mkF m 142 #[.val (.int p1), .val (.int p2), .val (.int p3), .val (.int p4), .val (.int p5), .val (.int p6), .val (.int N_), .val (.int (1 : Int32)), .val (.int (p3 ^^^ (-1 : Int32))), .val (.int (p4 ^^^ (-1 : Int32))), .val (.ref b1), .unset, .unset] [(.int (own_at (1 : Int32) p3 p4 p5 p6 (p3 ^^^ (-1 : Int32)) (p4 ^^^ (-1 : Int32))))])) (fun _ k => st248 _ k) ?_
              refine Go.via (S' := T248.setTop (mkF m 144 #[.val (.int p1), .val (.int p2), .val (.int p3), .val (.int p4), .val (.int p5), .val (.int p6), .val (.int N_), .val (.int (1 : Int32)), .val (.int (p3 ^^^ (-1 : Int32))), .val (.int (p4 ^^^ (-1 : Int32))), .val (.ref b1), .val (.int (own_at (1 : Int32) p3 p4 p5 p6 (p3 ^^^ (-1 : Int32)) (p4 ^^^ (-1 : Int32)))), .unset] [])) (fun _ k => XS.istore X248.here hx rfl (hb hby at_142) rfl (l' := #[.val (.int p1), .val (.int p2), .val (.int p3), .val (.int p4), .val (.int p5), .val (.int p6), .val (.int N_), .val (.int (1 : Int32)), .val (.int (p3 ^^^ (-1 : Int32))), .val (.int (p4 ^^^ (-1 : Int32))), .val (.ref b1), .val (.int (own_at (1 : Int32) p3 p4 p5 p6 (p3 ^^^ (-1 : Int32)) (p4 ^^^ (-1 : Int32)))), .unset]) rfl k) ?_
              refine Go.via (S' := T248.setTop (mkF m 146 #[.val (.int p1), .val (.int p2), .val (.int p3), .val (.int p4), .val (.int p5), .val (.int p6), .val (.int N_), .val (.int (1 : Int32)), .val (.int (p3 ^^^ (-1 : Int32))), .val (.int (p4 ^^^ (-1 : Int32))), .val (.ref b1), .val (.int (own_at (1 : Int32) p3 p4 p5 p6 (p3 ^^^ (-1 : Int32)) (p4 ^^^ (-1 : Int32)))), .unset] [(.ref b1)])) (fun _ k => XS.aload X248.here hx rfl (hb hby at_144) rfl rfl k) ?_
              refine Go.via (S' := T248.setTop (mkF m 148 #[.val (.int p1), .val (.int p2), .val (.int p3), .val (.int p4), .val (.int p5), .val (.int p6), .val (.int N_), .val (.int (1 : Int32)), .val (.int (p3 ^^^ (-1 : Int32))), .val (.int (p4 ^^^ (-1 : Int32))), .val (.ref b1), .val (.int (own_at (1 : Int32) p3 p4 p5 p6 (p3 ^^^ (-1 : Int32)) (p4 ^^^ (-1 : Int32)))), .unset] [(.int (1 : Int32)), (.ref b1)])) (fun _ k => XS.iload X248.here hx rfl (hb hby at_146) rfl k) ?_
              obtain ⟨cq250, kq250, q250a, q250b, q250c⟩ := isOf hZ e248 f224
              obtain ⟨_, _, ⟨T250, L250, k250, n250⟩, -, X250, ⟨Lc250, hQ250, l250, y250, z250⟩, st250⟩ := X248.virtualBack hx (y := (⟨"com/example/tidegraph/tidegraph/graph/ElementList", "get", "(I)Ljava/lang/Object;"⟩ : MethodName)) (z := (⟨"com/example/tidegraph/tidegraph/graph/ElementList", "get", "(I)Ljava/lang/Object;"⟩ : MethodName)) hown (mvT hZ (hw _ (List.mem_of_getElem? (i := 75) rfl))) (mvT hZ (hw _ (List.mem_of_getElem? (i := 76) rfl))) (notFace_of_selects (args := #[]) (mvT hZ (hw _ (List.mem_of_getElem? (i := 78) rfl)))) (mvT hZ (hw _ (List.mem_of_getElem? (i := 78) rfl))) (mvT hZ (hw _ (List.mem_of_getElem? (i := 77) rfl))) (by decide) (backOf (W := 0) (rm12 l Z a0 hw [] b1 (1 : Int32) ar165 k2165 (8 : Int32) [(.ref r18), (.ref r43), (.ref r72), (.ref r105), (.ref r142), (.ref r192), .null, .null] (6 : Int32) r43 T219.heap n0 z240 Fe219 Fs219 Va219 (by decide) (by decide) rfl) hZ (hw _ (List.mem_of_getElem? (i := 79) rfl)) (hw _ (List.mem_of_getElem? (i := 3) rfl)) (by decide) (by decide)) q250a q250c (g := (mkF m 148 #[.val (.int p1), .val (.int p2), .val (.int p3), .val (.int p4), .val (.int p5), .val (.int p6), .val (.int N_), .val (.int (1 : Int32)), .val (.int (p3 ^^^ (-1 : Int32))), .val (.int (p4 ^^^ (-1 : Int32))), .val (.ref b1), .val (.int (own_at (1 : Int32) p3 p4 p5 p6 (p3 ^^^ (-1 : Int32)) (p4 ^^^ (-1 : Int32)))), .unset] [(.int (1 : Int32)), (.ref b1)])) rfl (by rw [hml]; rfl) (Steps.refl _) (argsL := [(.int (1 : Int32))]) (rest := []) (lenOf pd_8 rfl) rfl (by show 2 * 0 + _ ≤ _; exact Nat.le_of_eq rfl) (hb hby at_148) (fun _ _ => ⟨rfl, e248, (by decide : 9 + 0 ≤ _), (by decide : 21 + 0 ≤ _)⟩)
              dsimp only [Pt.U, Pt.locs, Pt.cells, Pt.slots] at X250 l250 y250 z250 st250 hQ250
              subst l250 y250 z250
              obtain ⟨rfl, N250q, e250⟩ := hQ250
              have N251 := Fr.app N249 N250q
              refine Go.via (S' := T250.setTop (mkF m 151 #[.val (.int p1), .val (.int p2), .val (.int p3), .val (.int p4), .val (.int p5), .val (.int p6), .val (.int N_), .val (.int (1 : Int32)), .val (.int (p3 ^^^ (-1 : Int32))), .val (.int (p4 ^^^ (-1 : Int32))), .val (.ref b1), .val (.int (own_at (1 : Int32) p3 p4 p5 p6 (p3 ^^^ (-1 : Int32)) (p4 ^^^ (-1 : Int32)))), .unset] [(.ref r43)])) (fun _ k => st250.trans k) ?_
              obtain ⟨T252, X252, e252, st252⟩ := castY X250 hx hZ hown (hw _ (List.mem_of_getElem? (i := 80) rfl)) e250 (Ins.self f228) (g := (mkF m 151 #[.val (.int p1), .val (.int p2), .val (.int p3), .val (.int p4), .val (.int p5), .val (.int p6), .val (.int N_), .val (.int (1 : Int32)), .val (.int (p3 ^^^ (-1 : Int32))), .val (.int (p4 ^^^ (-1 : Int32))), .val (.ref b1), .val (.int (own_at (1 : Int32) p3 p4 p5 p6 (p3 ^^^ (-1 : Int32)) (p4 ^^^ (-1 : Int32)))), .unset] [(.ref r43)])) rfl rfl (hb hby at_151)
              refine Go.via (S' := T252.setTop (mkF m 154 #[.val (.int p1), .val (.int p2), .val (.int p3), .val (.int p4), .val (.int p5), .val (.int p6), .val (.int N_), .val (.int (1 : Int32)), .val (.int (p3 ^^^ (-1 : Int32))), .val (.int (p4 ^^^ (-1 : Int32))), .val (.ref b1), .val (.int (own_at (1 : Int32) p3 p4 p5 p6 (p3 ^^^ (-1 : Int32)) (p4 ^^^ (-1 : Int32)))), .unset] [(.ref r43)])) (fun _ k => st252 _ k) ?_
              refine Go.via (S' := T252.setTop (mkF m 156 #[.val (.int p1), .val (.int p2), .val (.int p3), .val (.int p4), .val (.int p5), .val (.int p6), .val (.int N_), .val (.int (1 : Int32)), .val (.int (p3 ^^^ (-1 : Int32))), .val (.int (p4 ^^^ (-1 : Int32))), .val (.ref b1), .val (.int (own_at (1 : Int32) p3 p4 p5 p6 (p3 ^^^ (-1 : Int32)) (p4 ^^^ (-1 : Int32)))), .val (.ref r43)] [])) (fun _ k => XS.astore X252.here hx rfl (hb hby at_154) rfl rfl (l' := #[.val (.int p1), .val (.int p2), .val (.int p3), .val (.int p4), .val (.int p5), .val (.int p6), .val (.int N_), .val (.int (1 : Int32)), .val (.int (p3 ^^^ (-1 : Int32))), .val (.int (p4 ^^^ (-1 : Int32))), .val (.ref b1), .val (.int (own_at (1 : Int32) p3 p4 p5 p6 (p3 ^^^ (-1 : Int32)) (p4 ^^^ (-1 : Int32)))), .val (.ref r43)]) rfl k) ?_
              refine Go.via (S' := T252.setTop (mkF m 158 #[.val (.int p1), .val (.int p2), .val (.int p3), .val (.int p4), .val (.int p5), .val (.int p6), .val (.int N_), .val (.int (1 : Int32)), .val (.int (p3 ^^^ (-1 : Int32))), .val (.int (p4 ^^^ (-1 : Int32))), .val (.ref b1), .val (.int (own_at (1 : Int32) p3 p4 p5 p6 (p3 ^^^ (-1 : Int32)) (p4 ^^^ (-1 : Int32)))), .val (.ref r43)] [(.ref r43)])) (fun _ k => XS.aload X252.here hx rfl (hb hby at_156) rfl rfl k) ?_
              refine Go.via (S' := T252.setTop (mkF m 163 #[.val (.int p1), .val (.int p2), .val (.int p3), .val (.int p4), .val (.int p5), .val (.int p6), .val (.int N_), .val (.int (1 : Int32)), .val (.int (p3 ^^^ (-1 : Int32))), .val (.int (p4 ^^^ (-1 : Int32))), .val (.ref b1), .val (.int (own_at (1 : Int32) p3 p4 p5 p6 (p3 ^^^ (-1 : Int32)) (p4 ^^^ (-1 : Int32)))), .val (.ref r43)] [])) (fun _ k => XS.ifnonnullYes X252.here hx rfl (pc0 := 158) (pc' := 163) rfl (hb hby at_158) rfl (by decide) (by decide) k) ?_
              refine Go.via (S' := T252.setTop (mkF m 165 #[.val (.int p1), .val (.int p2), .val (.int p3), .val (.int p4), .val (.int p5), .val (.int p6), .val (.int N_), .val (.int (1 : Int32)), .val (.int (p3 ^^^ (-1 : Int32))), .val (.int (p4 ^^^ (-1 : Int32))), .val (.ref b1), .val (.int (own_at (1 : Int32) p3 p4 p5 p6 (p3 ^^^ (-1 : Int32)) (p4 ^^^ (-1 : Int32)))), .val (.ref r43)] [(.ref r43)])) (fun _ k => XS.aload X252.here hx rfl (hb hby at_163) rfl rfl k) ?_
              obtain ⟨cq253, kq253, q253a, q253b, q253c⟩ := isOf hZ e252 f228
              obtain ⟨_, _, ⟨T253, L253, k253, n253⟩, -, X253, ⟨Lc253, hQ253, l253, y253, z253⟩, st253⟩ := X252.virtualBack hx (y := (⟨"java/lang/Integer", "intValue", "()I"⟩ : MethodName)) (z := (⟨"java/lang/Integer", "intValue", "()I"⟩ : MethodName)) hown (mvT hZ (hw _ (List.mem_of_getElem? (i := 82) rfl))) (mvT hZ (hw _ (List.mem_of_getElem? (i := 83) rfl))) (notFace_of_selects (args := #[]) (mvT hZ (hw _ (List.mem_of_getElem? (i := 85) rfl)))) (mvT hZ (hw _ (List.mem_of_getElem? (i := 85) rfl))) (mvT hZ (hw _ (List.mem_of_getElem? (i := 84) rfl))) (by decide) (backOf (W := 0) (rm13 l Z a0 hw [] r43 p4 T219.heap n0 z240 f229) hZ (hw _ (List.mem_of_getElem? (i := 86) rfl)) (hw _ (List.mem_of_getElem? (i := 29) rfl)) (by decide) (by decide)) q253a q253c (g := (mkF m 165 #[.val (.int p1), .val (.int p2), .val (.int p3), .val (.int p4), .val (.int p5), .val (.int p6), .val (.int N_), .val (.int (1 : Int32)), .val (.int (p3 ^^^ (-1 : Int32))), .val (.int (p4 ^^^ (-1 : Int32))), .val (.ref b1), .val (.int (own_at (1 : Int32) p3 p4 p5 p6 (p3 ^^^ (-1 : Int32)) (p4 ^^^ (-1 : Int32)))), .val (.ref r43)] [(.ref r43)])) rfl (by rw [hml]; rfl) (Steps.refl _) (argsL := []) (rest := []) (lenOf pd_9 rfl) rfl (by show 2 * 0 + _ ≤ _; exact Nat.le_of_eq rfl) (hb hby at_165) (fun _ _ => ⟨rfl, e252, (by decide : 9 + 0 ≤ _), (by decide : 21 + 0 ≤ _)⟩)
              dsimp only [Pt.U, Pt.locs, Pt.cells, Pt.slots] at X253 l253 y253 z253 st253 hQ253
              subst l253 y253 z253
              obtain ⟨rfl, N253q, e253⟩ := hQ253
              have N254 := Fr.app N251 N253q
              refine Go.via (S' := T253.setTop (mkF m 168 #[.val (.int p1), .val (.int p2), .val (.int p3), .val (.int p4), .val (.int p5), .val (.int p6), .val (.int N_), .val (.int (1 : Int32)), .val (.int (p3 ^^^ (-1 : Int32))), .val (.int (p4 ^^^ (-1 : Int32))), .val (.ref b1), .val (.int (own_at (1 : Int32) p3 p4 p5 p6 (p3 ^^^ (-1 : Int32)) (p4 ^^^ (-1 : Int32)))), .val (.ref r43)] [(.int p4)])) (fun _ k => st253.trans k) ?_
              refine Go.via (S' := T253.setTop (mkF m 170 #[.val (.int p1), .val (.int p2), .val (.int p3), .val (.int p4), .val (.int p5), .val (.int p6), .val (.int N_), .val (.int (1 : Int32)), .val (.int (p3 ^^^ (-1 : Int32))), .val (.int (p4 ^^^ (-1 : Int32))), .val (.ref b1), .val (.int (own_at (1 : Int32) p3 p4 p5 p6 (p3 ^^^ (-1 : Int32)) (p4 ^^^ (-1 : Int32)))), .val (.ref r43)] [(.int (own_at (1 : Int32) p3 p4 p5 p6 (p3 ^^^ (-1 : Int32)) (p4 ^^^ (-1 : Int32)))), (.int p4)])) (fun _ k => XS.iload X253.here hx rfl (hb hby at_168) rfl k) ?_
              refine Go.via (S' := T253.setTop (mkF m 173 #[.val (.int p1), .val (.int p2), .val (.int p3), .val (.int p4), .val (.int p5), .val (.int p6), .val (.int N_), .val (.int (1 : Int32)), .val (.int (p3 ^^^ (-1 : Int32))), .val (.int (p4 ^^^ (-1 : Int32))), .val (.ref b1), .val (.int (own_at (1 : Int32) p3 p4 p5 p6 (p3 ^^^ (-1 : Int32)) (p4 ^^^ (-1 : Int32)))), .val (.ref r43)] [])) (fun _ k => XS.icmpNo X253.here hx rfl (hb hby at_170) rfl (teq (by simp [own_at])).2 k) ?_
              refine Go.via (S' := T253.setTop (mkF m 174 #[.val (.int p1), .val (.int p2), .val (.int p3), .val (.int p4), .val (.int p5), .val (.int p6), .val (.int N_), .val (.int (1 : Int32)), .val (.int (p3 ^^^ (-1 : Int32))), .val (.int (p4 ^^^ (-1 : Int32))), .val (.ref b1), .val (.int (own_at (1 : Int32) p3 p4 p5 p6 (p3 ^^^ (-1 : Int32)) (p4 ^^^ (-1 : Int32)))), .val (.ref r43)] [(.int (1 : Int32))])) (fun _ k => XS.iconst X253.here hx rfl (hb hby at_173) k) ?_
              refine Go.via (S' := T253.setTop (mkF m 178 #[.val (.int p1), .val (.int p2), .val (.int p3), .val (.int p4), .val (.int p5), .val (.int p6), .val (.int N_), .val (.int (1 : Int32)), .val (.int (p3 ^^^ (-1 : Int32))), .val (.int (p4 ^^^ (-1 : Int32))), .val (.ref b1), .val (.int (own_at (1 : Int32) p3 p4 p5 p6 (p3 ^^^ (-1 : Int32)) (p4 ^^^ (-1 : Int32)))), .val (.ref r43)] [(.int (1 : Int32))])) (fun _ k => XS.goto X253.here hx rfl (pc0 := 174) (pc' := 178) rfl (hb hby at_174) (by decide) (by decide) k) ?_
              exact Go.retB X253 hx (BodyLoose.notSynchronized Bd) Bd.returns (hb hby at_178) rfl (by rw [e253]; exact ⟨rfl, N254⟩) (by decide) (by decide)
            · obtain rfl : I_ = (2 : Int32) := Int32.toInt_inj.mp hi
              refine Go.via (S' := T219.setTop (mkF m 129 #[.val (.int p1), .val (.int p2), .val (.int p3), .val (.int p4), .val (.int p5), .val (.int p6), .val (.int N_), .val (.int (2 : Int32)), .val (.int (p3 ^^^ (-1 : Int32))), .val (.int (p4 ^^^ (-1 : Int32))), .val (.ref b1), .unset, .unset] [(.int (2 : Int32))])) (fun _ k => XS.iload X219.here hx rfl (hb hby at_127) rfl k) ?_
              refine Go.via (S' := T219.setTop (mkF m 130 #[.val (.int p1), .val (.int p2), .val (.int p3), .val (.int p4), .val (.int p5), .val (.int p6), .val (.int N_), .val (.int (2 : Int32)), .val (.int (p3 ^^^ (-1 : Int32))), .val (.int (p4 ^^^ (-1 : Int32))), .val (.ref b1), .unset, .unset] [(.int p3), (.int (2 : Int32))])) (fun _ k => XS.iloadN X219.here hx rfl (hb hby at_129) rfl k) ?_
              refine Go.via (S' := T219.setTop (mkF m 131 #[.val (.int p1), .val (.int p2), .val (.int p3), .val (.int p4), .val (.int p5), .val (.int p6), .val (.int N_), .val (.int (2 : Int32)), .val (.int (p3 ^^^ (-1 : Int32))), .val (.int (p4 ^^^ (-1 : Int32))), .val (.ref b1), .unset, .unset] [(.int p4), (.int p3), (.int (2 : Int32))])) (fun _ k => XS.iloadN X219.here hx rfl (hb hby at_130) rfl k) ?_
              refine Go.via (S' := T219.setTop (mkF m 133 #[.val (.int p1), .val (.int p2), .val (.int p3), .val (.int p4), .val (.int p5), .val (.int p6), .val (.int N_), .val (.int (2 : Int32)), .val (.int (p3 ^^^ (-1 : Int32))), .val (.int (p4 ^^^ (-1 : Int32))), .val (.ref b1), .unset, .unset] [(.int p5), (.int p4), (.int p3), (.int (2 : Int32))])) (fun _ k => XS.iload X219.here hx rfl (hb hby at_131) rfl k) ?_
              refine Go.via (S' := T219.setTop (mkF m 135 #[.val (.int p1), .val (.int p2), .val (.int p3), .val (.int p4), .val (.int p5), .val (.int p6), .val (.int N_), .val (.int (2 : Int32)), .val (.int (p3 ^^^ (-1 : Int32))), .val (.int (p4 ^^^ (-1 : Int32))), .val (.ref b1), .unset, .unset] [(.int p6), (.int p5), (.int p4), (.int p3), (.int (2 : Int32))])) (fun _ k => XS.iload X219.here hx rfl (hb hby at_133) rfl k) ?_
              refine Go.via (S' := T219.setTop (mkF m 137 #[.val (.int p1), .val (.int p2), .val (.int p3), .val (.int p4), .val (.int p5), .val (.int p6), .val (.int N_), .val (.int (2 : Int32)), .val (.int (p3 ^^^ (-1 : Int32))), .val (.int (p4 ^^^ (-1 : Int32))), .val (.ref b1), .unset, .unset] [(.int (p3 ^^^ (-1 : Int32))), (.int p6), (.int p5), (.int p4), (.int p3), (.int (2 : Int32))])) (fun _ k => XS.iload X219.here hx rfl (hb hby at_135) rfl k) ?_
              refine Go.via (S' := T219.setTop (mkF m 139 #[.val (.int p1), .val (.int p2), .val (.int p3), .val (.int p4), .val (.int p5), .val (.int p6), .val (.int N_), .val (.int (2 : Int32)), .val (.int (p3 ^^^ (-1 : Int32))), .val (.int (p4 ^^^ (-1 : Int32))), .val (.ref b1), .unset, .unset] [(.int (p4 ^^^ (-1 : Int32))), (.int (p3 ^^^ (-1 : Int32))), (.int p6), (.int p5), (.int p4), (.int p3), (.int (2 : Int32))])) (fun _ k => XS.iload X219.here hx rfl (hb hby at_137) rfl k) ?_
              obtain ⟨_, _, ⟨T255, L255, k255, n255⟩, -, X255, ⟨Lc255, hQ255, l255, y255, z255⟩, st255⟩ := Jvm.LawKit.callS X219 hx (y := (⟨"com/example/tidegraph/tidegraph/graph/ElementListGetPinLaw", "expectedAt", "(IIIIIII)I"⟩ : MethodName)) hown (mvT hZ (hw _ (List.mem_of_getElem? (i := 71) rfl))) (mvT hZ (hw _ (List.mem_of_getElem? (i := 72) rfl))) (mvT hZ (hw _ (List.mem_of_getElem? (i := 73) rfl))) (mvT hZ (hw _ (List.mem_of_getElem? (i := 74) rfl))) (by decide) (backOf (W := 0) (rm11 l Z a0 hw [] (2 : Int32) p3 p4 p5 p6 (p3 ^^^ (-1 : Int32)) (p4 ^^^ (-1 : Int32)) T219.heap n0 z240) hZ (hw _ (List.mem_of_getElem? (i := 74) rfl)) (hw _ (List.mem_of_getElem? (i := 73) rfl)) (by decide) (by decide)) (g := (mkF m 139 #[.val (.int p1), .val (.int p2), .val (.int p3), .val (.int p4), .val (.int p5), .val (.int p6), .val (.int N_), .val (.int (2 : Int32)), .val (.int (p3 ^^^ (-1 : Int32))), .val (.int (p4 ^^^ (-1 : Int32))), .val (.ref b1), .unset, .unset] [(.int (p4 ^^^ (-1 : Int32))), (.int (p3 ^^^ (-1 : Int32))), (.int p6), (.int p5), (.int p4), (.int p3), (.int (2 : Int32))])) rfl (by rw [hml]; rfl) (argsL := [(.int (2 : Int32)), (.int p3), (.int p4), (.int p5), (.int p6), (.int (p3 ^^^ (-1 : Int32))), (.int (p4 ^^^ (-1 : Int32)))]) (rest := []) (lenOf pd_7 rfl) rfl (by show 2 * 0 + _ ≤ _; exact Nat.le_of_eq rfl) (hb hby at_139) (fun _ _ => ⟨rfl, rfl, (by decide : 9 + 0 ≤ _), (by decide : 21 + 0 ≤ _)⟩)
              dsimp only [Pt.U, Pt.locs, Pt.cells, Pt.slots] at X255 l255 y255 z255 st255 hQ255
              subst l255 y255 z255
              obtain ⟨rfl, N255q, e255⟩ := hQ255
              have N256 := Fr.app N220 N255q
              refine Go.via (S' := T255.setTop (mkF m 142 #[.val (.int p1), .val (.int p2), .val (.int p3), .val (.int p4), .val (.int p5), .val (.int p6), .val (.int N_), .val (.int (2 : Int32)), .val (.int (p3 ^^^ (-1 : Int32))), .val (.int (p4 ^^^ (-1 : Int32))), .val (.ref b1), .unset, .unset] [(.int (own_at (2 : Int32) p3 p4 p5 p6 (p3 ^^^ (-1 : Int32)) (p4 ^^^ (-1 : Int32))))])) (fun _ k => st255 _ k) ?_
              refine Go.via (S' := T255.setTop (mkF m 144 #[.val (.int p1), .val (.int p2), .val (.int p3), .val (.int p4), .val (.int p5), .val (.int p6), .val (.int N_), .val (.int (2 : Int32)), .val (.int (p3 ^^^ (-1 : Int32))), .val (.int (p4 ^^^ (-1 : Int32))), .val (.ref b1), .val (.int (own_at (2 : Int32) p3 p4 p5 p6 (p3 ^^^ (-1 : Int32)) (p4 ^^^ (-1 : Int32)))), .unset] [])) (fun _ k => XS.istore X255.here hx rfl (hb hby at_142) rfl (l' := #[.val (.int p1), .val (.int p2), .val (.int p3), .val (.int p4), .val (.int p5), .val (.int p6), .val (.int N_), .val (.int (2 : Int32)), .val (.int (p3 ^^^ (-1 : Int32))), .val (.int (p4 ^^^ (-1 : Int32))), .val (.ref b1), .val (.int (own_at (2 : Int32) p3 p4 p5 p6 (p3 ^^^ (-1 : Int32)) (p4 ^^^ (-1 : Int32)))), .unset]) rfl k) ?_
              refine Go.via (S' := T255.setTop (mkF m 146 #[.val (.int p1), .val (.int p2), .val (.int p3), .val (.int p4), .val (.int p5), .val (.int p6), .val (.int N_), .val (.int (2 : Int32)), .val (.int (p3 ^^^ (-1 : Int32))), .val (.int (p4 ^^^ (-1 : Int32))), .val (.ref b1), .val (.int (own_at (2 : Int32) p3 p4 p5 p6 (p3 ^^^ (-1 : Int32)) (p4 ^^^ (-1 : Int32)))), .unset] [(.ref b1)])) (fun _ k => XS.aload X255.here hx rfl (hb hby at_144) rfl rfl k) ?_
              refine Go.via (S' := T255.setTop (mkF m 148 #[.val (.int p1), .val (.int p2), .val (.int p3), .val (.int p4), .val (.int p5), .val (.int p6), .val (.int N_), .val (.int (2 : Int32)), .val (.int (p3 ^^^ (-1 : Int32))), .val (.int (p4 ^^^ (-1 : Int32))), .val (.ref b1), .val (.int (own_at (2 : Int32) p3 p4 p5 p6 (p3 ^^^ (-1 : Int32)) (p4 ^^^ (-1 : Int32)))), .unset] [(.int (2 : Int32)), (.ref b1)])) (fun _ k => XS.iload X255.here hx rfl (hb hby at_146) rfl k) ?_
              obtain ⟨cq257, kq257, q257a, q257b, q257c⟩ := isOf hZ e255 f224
              obtain ⟨_, _, ⟨T257, L257, k257, n257⟩, -, X257, ⟨Lc257, hQ257, l257, y257, z257⟩, st257⟩ := X255.virtualBack hx (y := (⟨"com/example/tidegraph/tidegraph/graph/ElementList", "get", "(I)Ljava/lang/Object;"⟩ : MethodName)) (z := (⟨"com/example/tidegraph/tidegraph/graph/ElementList", "get", "(I)Ljava/lang/Object;"⟩ : MethodName)) hown (mvT hZ (hw _ (List.mem_of_getElem? (i := 75) rfl))) (mvT hZ (hw _ (List.mem_of_getElem? (i := 76) rfl))) (notFace_of_selects (args := #[]) (mvT hZ (hw _ (List.mem_of_getElem? (i := 78) rfl)))) (mvT hZ (hw _ (List.mem_of_getElem? (i := 78) rfl))) (mvT hZ (hw _ (List.mem_of_getElem? (i := 77) rfl))) (by decide) (backOf (W := 0) (rm12 l Z a0 hw [] b1 (2 : Int32) ar165 k2165 (8 : Int32) [(.ref r18), (.ref r43), (.ref r72), (.ref r105), (.ref r142), (.ref r192), .null, .null] (6 : Int32) r72 T219.heap n0 z240 Fe219 Fs219 Va219 (by decide) (by decide) rfl) hZ (hw _ (List.mem_of_getElem? (i := 79) rfl)) (hw _ (List.mem_of_getElem? (i := 3) rfl)) (by decide) (by decide)) q257a q257c (g := (mkF m 148 #[.val (.int p1), .val (.int p2), .val (.int p3), .val (.int p4), .val (.int p5), .val (.int p6), .val (.int N_), .val (.int (2 : Int32)), .val (.int (p3 ^^^ (-1 : Int32))), .val (.int (p4 ^^^ (-1 : Int32))), .val (.ref b1), .val (.int (own_at (2 : Int32) p3 p4 p5 p6 (p3 ^^^ (-1 : Int32)) (p4 ^^^ (-1 : Int32)))), .unset] [(.int (2 : Int32)), (.ref b1)])) rfl (by rw [hml]; rfl) (Steps.refl _) (argsL := [(.int (2 : Int32))]) (rest := []) (lenOf pd_8 rfl) rfl (by show 2 * 0 + _ ≤ _; exact Nat.le_of_eq rfl) (hb hby at_148) (fun _ _ => ⟨rfl, e255, (by decide : 9 + 0 ≤ _), (by decide : 21 + 0 ≤ _)⟩)
              dsimp only [Pt.U, Pt.locs, Pt.cells, Pt.slots] at X257 l257 y257 z257 st257 hQ257
              subst l257 y257 z257
              obtain ⟨rfl, N257q, e257⟩ := hQ257
              have N258 := Fr.app N256 N257q
              refine Go.via (S' := T257.setTop (mkF m 151 #[.val (.int p1), .val (.int p2), .val (.int p3), .val (.int p4), .val (.int p5), .val (.int p6), .val (.int N_), .val (.int (2 : Int32)), .val (.int (p3 ^^^ (-1 : Int32))), .val (.int (p4 ^^^ (-1 : Int32))), .val (.ref b1), .val (.int (own_at (2 : Int32) p3 p4 p5 p6 (p3 ^^^ (-1 : Int32)) (p4 ^^^ (-1 : Int32)))), .unset] [(.ref r72)])) (fun _ k => st257.trans k) ?_
              obtain ⟨T259, X259, e259, st259⟩ := castY X257 hx hZ hown (hw _ (List.mem_of_getElem? (i := 80) rfl)) e257 (Ins.self f230) (g := (mkF m 151 #[.val (.int p1), .val (.int p2), .val (.int p3), .val (.int p4), .val (.int p5), .val (.int p6), .val (.int N_), .val (.int (2 : Int32)), .val (.int (p3 ^^^ (-1 : Int32))), .val (.int (p4 ^^^ (-1 : Int32))), .val (.ref b1), .val (.int (own_at (2 : Int32) p3 p4 p5 p6 (p3 ^^^ (-1 : Int32)) (p4 ^^^ (-1 : Int32)))), .unset] [(.ref r72)])) rfl rfl (hb hby at_151)
              refine Go.via (S' := T259.setTop (mkF m 154 #[.val (.int p1), .val (.int p2), .val (.int p3), .val (.int p4), .val (.int p5), .val (.int p6), .val (.int N_), .val (.int (2 : Int32)), .val (.int (p3 ^^^ (-1 : Int32))), .val (.int (p4 ^^^ (-1 : Int32))), .val (.ref b1), .val (.int (own_at (2 : Int32) p3 p4 p5 p6 (p3 ^^^ (-1 : Int32)) (p4 ^^^ (-1 : Int32)))), .unset] [(.ref r72)])) (fun _ k => st259 _ k) ?_
              refine Go.via (S' := T259.setTop (mkF m 156 #[.val (.int p1), .val (.int p2), .val (.int p3), .val (.int p4), .val (.int p5), .val (.int p6), .val (.int N_), .val (.int (2 : Int32)), .val (.int (p3 ^^^ (-1 : Int32))), .val (.int (p4 ^^^ (-1 : Int32))), .val (.ref b1), .val (.int (own_at (2 : Int32) p3 p4 p5 p6 (p3 ^^^ (-1 : Int32)) (p4 ^^^ (-1 : Int32)))), .val (.ref r72)] [])) (fun _ k => XS.astore X259.here hx rfl (hb hby at_154) rfl rfl (l' := #[.val (.int p1), .val (.int p2), .val (.int p3), .val (.int p4), .val (.int p5), .val (.int p6), .val (.int N_), .val (.int (2 : Int32)), .val (.int (p3 ^^^ (-1 : Int32))), .val (.int (p4 ^^^ (-1 : Int32))), .val (.ref b1), .val (.int (own_at (2 : Int32) p3 p4 p5 p6 (p3 ^^^ (-1 : Int32)) (p4 ^^^ (-1 : Int32)))), .val (.ref r72)]) rfl k) ?_
              refine Go.via (S' := T259.setTop (mkF m 158 #[.val (.int p1), .val (.int p2), .val (.int p3), .val (.int p4), .val (.int p5), .val (.int p6), .val (.int N_), .val (.int (2 : Int32)), .val (.int (p3 ^^^ (-1 : Int32))), .val (.int (p4 ^^^ (-1 : Int32))), .val (.ref b1), .val (.int (own_at (2 : Int32) p3 p4 p5 p6 (p3 ^^^ (-1 : Int32)) (p4 ^^^ (-1 : Int32)))), .val (.ref r72)] [(.ref r72)])) (fun _ k => XS.aload X259.here hx rfl (hb hby at_156) rfl rfl k) ?_
              refine Go.via (S' := T259.setTop (mkF m 163 #[.val (.int p1), .val (.int p2), .val (.int p3), .val (.int p4), .val (.int p5), .val (.int p6), .val (.int N_), .val (.int (2 : Int32)), .val (.int (p3 ^^^ (-1 : Int32))), .val (.int (p4 ^^^ (-1 : Int32))), .val (.ref b1), .val (.int (own_at (2 : Int32) p3 p4 p5 p6 (p3 ^^^ (-1 : Int32)) (p4 ^^^ (-1 : Int32)))), .val (.ref r72)] [])) (fun _ k => XS.ifnonnullYes X259.here hx rfl (pc0 := 158) (pc' := 163) rfl (hb hby at_158) rfl (by decide) (by decide) k) ?_
              refine Go.via (S' := T259.setTop (mkF m 165 #[.val (.int p1), .val (.int p2), .val (.int p3), .val (.int p4), .val (.int p5), .val (.int p6), .val (.int N_), .val (.int (2 : Int32)), .val (.int (p3 ^^^ (-1 : Int32))), .val (.int (p4 ^^^ (-1 : Int32))), .val (.ref b1), .val (.int (own_at (2 : Int32) p3 p4 p5 p6 (p3 ^^^ (-1 : Int32)) (p4 ^^^ (-1 : Int32)))), .val (.ref r72)] [(.ref r72)])) (fun _ k => XS.aload X259.here hx rfl (hb hby at_163) rfl rfl k) ?_
              obtain ⟨cq260, kq260, q260a, q260b, q260c⟩ := isOf hZ e259 f230
              obtain ⟨_, _, ⟨T260, L260, k260, n260⟩, -, X260, ⟨Lc260, hQ260, l260, y260, z260⟩, st260⟩ := X259.virtualBack hx (y := (⟨"java/lang/Integer", "intValue", "()I"⟩ : MethodName)) (z := (⟨"java/lang/Integer", "intValue", "()I"⟩ : MethodName)) hown (mvT hZ (hw _ (List.mem_of_getElem? (i := 82) rfl))) (mvT hZ (hw _ (List.mem_of_getElem? (i := 83) rfl))) (notFace_of_selects (args := #[]) (mvT hZ (hw _ (List.mem_of_getElem? (i := 85) rfl)))) (mvT hZ (hw _ (List.mem_of_getElem? (i := 85) rfl))) (mvT hZ (hw _ (List.mem_of_getElem? (i := 84) rfl))) (by decide) (backOf (W := 0) (rm13 l Z a0 hw [] r72 p5 T219.heap n0 z240 f231) hZ (hw _ (List.mem_of_getElem? (i := 86) rfl)) (hw _ (List.mem_of_getElem? (i := 29) rfl)) (by decide) (by decide)) q260a q260c (g := (mkF m 165 #[.val (.int p1), .val (.int p2), .val (.int p3), .val (.int p4), .val (.int p5), .val (.int p6), .val (.int N_), .val (.int (2 : Int32)), .val (.int (p3 ^^^ (-1 : Int32))), .val (.int (p4 ^^^ (-1 : Int32))), .val (.ref b1), .val (.int (own_at (2 : Int32) p3 p4 p5 p6 (p3 ^^^ (-1 : Int32)) (p4 ^^^ (-1 : Int32)))), .val (.ref r72)] [(.ref r72)])) rfl (by rw [hml]; rfl) (Steps.refl _) (argsL := []) (rest := []) (lenOf pd_9 rfl) rfl (by show 2 * 0 + _ ≤ _; exact Nat.le_of_eq rfl) (hb hby at_165) (fun _ _ => ⟨rfl, e259, (by decide : 9 + 0 ≤ _), (by decide : 21 + 0 ≤ _)⟩)
              dsimp only [Pt.U, Pt.locs, Pt.cells, Pt.slots] at X260 l260 y260 z260 st260 hQ260
              subst l260 y260 z260
              obtain ⟨rfl, N260q, e260⟩ := hQ260
              have N261 := Fr.app N258 N260q
              refine Go.via (S' := T260.setTop (mkF m 168 #[.val (.int p1), .val (.int p2), .val (.int p3), .val (.int p4), .val (.int p5), .val (.int p6), .val (.int N_), .val (.int (2 : Int32)), .val (.int (p3 ^^^ (-1 : Int32))), .val (.int (p4 ^^^ (-1 : Int32))), .val (.ref b1), .val (.int (own_at (2 : Int32) p3 p4 p5 p6 (p3 ^^^ (-1 : Int32)) (p4 ^^^ (-1 : Int32)))), .val (.ref r72)] [(.int p5)])) (fun _ k => st260.trans k) ?_
              refine Go.via (S' := T260.setTop (mkF m 170 #[.val (.int p1), .val (.int p2), .val (.int p3), .val (.int p4), .val (.int p5), .val (.int p6), .val (.int N_), .val (.int (2 : Int32)), .val (.int (p3 ^^^ (-1 : Int32))), .val (.int (p4 ^^^ (-1 : Int32))), .val (.ref b1), .val (.int (own_at (2 : Int32) p3 p4 p5 p6 (p3 ^^^ (-1 : Int32)) (p4 ^^^ (-1 : Int32)))), .val (.ref r72)] [(.int (own_at (2 : Int32) p3 p4 p5 p6 (p3 ^^^ (-1 : Int32)) (p4 ^^^ (-1 : Int32)))), (.int p5)])) (fun _ k => XS.iload X260.here hx rfl (hb hby at_168) rfl k) ?_
              refine Go.via (S' := T260.setTop (mkF m 173 #[.val (.int p1), .val (.int p2), .val (.int p3), .val (.int p4), .val (.int p5), .val (.int p6), .val (.int N_), .val (.int (2 : Int32)), .val (.int (p3 ^^^ (-1 : Int32))), .val (.int (p4 ^^^ (-1 : Int32))), .val (.ref b1), .val (.int (own_at (2 : Int32) p3 p4 p5 p6 (p3 ^^^ (-1 : Int32)) (p4 ^^^ (-1 : Int32)))), .val (.ref r72)] [])) (fun _ k => XS.icmpNo X260.here hx rfl (hb hby at_170) rfl (teq (by simp [own_at])).2 k) ?_
              refine Go.via (S' := T260.setTop (mkF m 174 #[.val (.int p1), .val (.int p2), .val (.int p3), .val (.int p4), .val (.int p5), .val (.int p6), .val (.int N_), .val (.int (2 : Int32)), .val (.int (p3 ^^^ (-1 : Int32))), .val (.int (p4 ^^^ (-1 : Int32))), .val (.ref b1), .val (.int (own_at (2 : Int32) p3 p4 p5 p6 (p3 ^^^ (-1 : Int32)) (p4 ^^^ (-1 : Int32)))), .val (.ref r72)] [(.int (1 : Int32))])) (fun _ k => XS.iconst X260.here hx rfl (hb hby at_173) k) ?_
              refine Go.via (S' := T260.setTop (mkF m 178 #[.val (.int p1), .val (.int p2), .val (.int p3), .val (.int p4), .val (.int p5), .val (.int p6), .val (.int N_), .val (.int (2 : Int32)), .val (.int (p3 ^^^ (-1 : Int32))), .val (.int (p4 ^^^ (-1 : Int32))), .val (.ref b1), .val (.int (own_at (2 : Int32) p3 p4 p5 p6 (p3 ^^^ (-1 : Int32)) (p4 ^^^ (-1 : Int32)))), .val (.ref r72)] [(.int (1 : Int32))])) (fun _ k => XS.goto X260.here hx rfl (pc0 := 174) (pc' := 178) rfl (hb hby at_174) (by decide) (by decide) k) ?_
              exact Go.retB X260 hx (BodyLoose.notSynchronized Bd) Bd.returns (hb hby at_178) rfl (by rw [e260]; exact ⟨rfl, N261⟩) (by decide) (by decide)
            · obtain rfl : I_ = (3 : Int32) := Int32.toInt_inj.mp hi
              refine Go.via (S' := T219.setTop (mkF m 129 #[.val (.int p1), .val (.int p2), .val (.int p3), .val (.int p4), .val (.int p5), .val (.int p6), .val (.int N_), .val (.int (3 : Int32)), .val (.int (p3 ^^^ (-1 : Int32))), .val (.int (p4 ^^^ (-1 : Int32))), .val (.ref b1), .unset, .unset] [(.int (3 : Int32))])) (fun _ k => XS.iload X219.here hx rfl (hb hby at_127) rfl k) ?_
              refine Go.via (S' := T219.setTop (mkF m 130 #[.val (.int p1), .val (.int p2), .val (.int p3), .val (.int p4), .val (.int p5), .val (.int p6), .val (.int N_), .val (.int (3 : Int32)), .val (.int (p3 ^^^ (-1 : Int32))), .val (.int (p4 ^^^ (-1 : Int32))), .val (.ref b1), .unset, .unset] [(.int p3), (.int (3 : Int32))])) (fun _ k => XS.iloadN X219.here hx rfl (hb hby at_129) rfl k) ?_
              refine Go.via (S' := T219.setTop (mkF m 131 #[.val (.int p1), .val (.int p2), .val (.int p3), .val (.int p4), .val (.int p5), .val (.int p6), .val (.int N_), .val (.int (3 : Int32)), .val (.int (p3 ^^^ (-1 : Int32))), .val (.int (p4 ^^^ (-1 : Int32))), .val (.ref b1), .unset, .unset] [(.int p4), (.int p3), (.int (3 : Int32))])) (fun _ k => XS.iloadN X219.here hx rfl (hb hby at_130) rfl k) ?_
              refine Go.via (S' := T219.setTop (mkF m 133 #[.val (.int p1), .val (.int p2), .val (.int p3), .val (.int p4), .val (.int p5), .val (.int p6), .val (.int N_), .val (.int (3 : Int32)), .val (.int (p3 ^^^ (-1 : Int32))), .val (.int (p4 ^^^ (-1 : Int32))), .val (.ref b1), .unset, .unset] [(.int p5), (.int p4), (.int p3), (.int (3 : Int32))])) (fun _ k => XS.iload X219.here hx rfl (hb hby at_131) rfl k) ?_
              refine Go.via (S' := T219.setTop (mkF m 135 #[.val (.int p1), .val (.int p2), .val (.int p3), .val (.int p4), .val (.int p5), .val (.int p6), .val (.int N_), .val (.int (3 : Int32)), .val (.int (p3 ^^^ (-1 : Int32))), .val (.int (p4 ^^^ (-1 : Int32))), .val (.ref b1), .unset, .unset] [(.int p6), (.int p5), (.int p4), (.int p3), (.int (3 : Int32))])) (fun _ k => XS.iload X219.here hx rfl (hb hby at_133) rfl k) ?_
              refine Go.via (S' := T219.setTop (mkF m 137 #[.val (.int p1), .val (.int p2), .val (.int p3), .val (.int p4), .val (.int p5), .val (.int p6), .val (.int N_), .val (.int (3 : Int32)), .val (.int (p3 ^^^ (-1 : Int32))), .val (.int (p4 ^^^ (-1 : Int32))), .val (.ref b1), .unset, .unset] [(.int (p3 ^^^ (-1 : Int32))), (.int p6), (.int p5), (.int p4), (.int p3), (.int (3 : Int32))])) (fun _ k => XS.iload X219.here hx rfl (hb hby at_135) rfl k) ?_
              refine Go.via (S' := T219.setTop (mkF m 139 #[.val (.int p1), .val (.int p2), .val (.int p3), .val (.int p4), .val (.int p5), .val (.int p6), .val (.int N_), .val (.int (3 : Int32)), .val (.int (p3 ^^^ (-1 : Int32))), .val (.int (p4 ^^^ (-1 : Int32))), .val (.ref b1), .unset, .unset] [(.int (p4 ^^^ (-1 : Int32))), (.int (p3 ^^^ (-1 : Int32))), (.int p6), (.int p5), (.int p4), (.int p3), (.int (3 : Int32))])) (fun _ k => XS.iload X219.here hx rfl (hb hby at_137) rfl k) ?_
              obtain ⟨_, _, ⟨T262, L262, k262, n262⟩, -, X262, ⟨Lc262, hQ262, l262, y262, z262⟩, st262⟩ := Jvm.LawKit.callS X219 hx (y := (⟨"com/example/tidegraph/tidegraph/graph/ElementListGetPinLaw", "expectedAt", "(IIIIIII)I"⟩ : MethodName)) hown (mvT hZ (hw _ (List.mem_of_getElem? (i := 71) rfl))) (mvT hZ (hw _ (List.mem_of_getElem? (i := 72) rfl))) (mvT hZ (hw _ (List.mem_of_getElem? (i := 73) rfl))) (mvT hZ (hw _ (List.mem_of_getElem? (i := 74) rfl))) (by decide) (backOf (W := 0) (rm11 l Z a0 hw [] (3 : Int32) p3 p4 p5 p6 (p3 ^^^ (-1 : Int32)) (p4 ^^^ (-1 : Int32)) T219.heap n0 z240) hZ (hw _ (List.mem_of_getElem? (i := 74) rfl)) (hw _ (List.mem_of_getElem? (i := 73) rfl)) (by decide) (by decide)) (g := (mkF m 139 #[.val (.int p1), .val (.int p2), .val (.int p3), .val (.int p4), .val (.int p5), .val (.int p6), .val (.int N_), .val (.int (3 : Int32)), .val (.int (p3 ^^^ (-1 : Int32))), .val (.int (p4 ^^^ (-1 : Int32))), .val (.ref b1), .unset, .unset] [(.int (p4 ^^^ (-1 : Int32))), (.int (p3 ^^^ (-1 : Int32))), (.int p6), (.int p5), (.int p4), (.int p3), (.int (3 : Int32))])) rfl (by rw [hml]; rfl) (argsL := [(.int (3 : Int32)), (.int p3), (.int p4), (.int p5), (.int p6), (.int (p3 ^^^ (-1 : Int32))), (.int (p4 ^^^ (-1 : Int32)))]) (rest := []) (lenOf pd_7 rfl) rfl (by show 2 * 0 + _ ≤ _; exact Nat.le_of_eq rfl) (hb hby at_139) (fun _ _ => ⟨rfl, rfl, (by decide : 9 + 0 ≤ _), (by decide : 21 + 0 ≤ _)⟩)
              dsimp only [Pt.U, Pt.locs, Pt.cells, Pt.slots] at X262 l262 y262 z262 st262 hQ262
              subst l262 y262 z262
              obtain ⟨rfl, N262q, e262⟩ := hQ262
              have N263 := Fr.app N220 N262q
              refine Go.via (S' := T262.setTop (mkF m 142 #[.val (.int p1), .val (.int p2), .val (.int p3), .val (.int p4), .val (.int p5), .val (.int p6), .val (.int N_), .val (.int (3 : Int32)), .val (.int (p3 ^^^ (-1 : Int32))), .val (.int (p4 ^^^ (-1 : Int32))), .val (.ref b1), .unset, .unset] [(.int (own_at (3 : Int32) p3 p4 p5 p6 (p3 ^^^ (-1 : Int32)) (p4 ^^^ (-1 : Int32))))])) (fun _ k => st262 _ k) ?_
              refine Go.via (S' := T262.setTop (mkF m 144 #[.val (.int p1), .val (.int p2), .val (.int p3), .val (.int p4), .val (.int p5), .val (.int p6), .val (.int N_), .val (.int (3 : Int32)), .val (.int (p3 ^^^ (-1 : Int32))), .val (.int (p4 ^^^ (-1 : Int32))), .val (.ref b1), .val (.int (own_at (3 : Int32) p3 p4 p5 p6 (p3 ^^^ (-1 : Int32)) (p4 ^^^ (-1 : Int32)))), .unset] [])) (fun _ k => XS.istore X262.here hx rfl (hb hby at_142) rfl (l' := #[.val (.int p1), .val (.int p2), .val (.int p3), .val (.int p4), .val (.int p5), .val (.int p6), .val (.int N_), .val (.int (3 : Int32)), .val (.int (p3 ^^^ (-1 : Int32))), .val (.int (p4 ^^^ (-1 : Int32))), .val (.ref b1), .val (.int (own_at (3 : Int32) p3 p4 p5 p6 (p3 ^^^ (-1 : Int32)) (p4 ^^^ (-1 : Int32)))), .unset]) rfl k) ?_
              refine Go.via (S' := T262.setTop (mkF m 146 #[.val (.int p1), .val (.int p2), .val (.int p3), .val (.int p4), .val (.int p5), .val (.int p6), .val (.int N_), .val (.int (3 : Int32)), .val (.int (p3 ^^^ (-1 : Int32))), .val (.int (p4 ^^^ (-1 : Int32))), .val (.ref b1), .val (.int (own_at (3 : Int32) p3 p4 p5 p6 (p3 ^^^ (-1 : Int32)) (p4 ^^^ (-1 : Int32)))), .unset] [(.ref b1)])) (fun _ k => XS.aload X262.here hx rfl (hb hby at_144) rfl rfl k) ?_
              refine Go.via (S' := T262.setTop (mkF m 148 #[.val (.int p1), .val (.int p2), .val (.int p3), .val (.int p4), .val (.int p5), .val (.int p6), .val (.int N_), .val (.int (3 : Int32)), .val (.int (p3 ^^^ (-1 : Int32))), .val (.int (p4 ^^^ (-1 : Int32))), .val (.ref b1), .val (.int (own_at (3 : Int32) p3 p4 p5 p6 (p3 ^^^ (-1 : Int32)) (p4 ^^^ (-1 : Int32)))), .unset] [(.int (3 : Int32)), (.ref b1)])) (fun _ k => XS.iload X262.here hx rfl (hb hby at_146) rfl k) ?_
              obtain ⟨cq264, kq264, q264a, q264b, q264c⟩ := isOf hZ e262 f224
              obtain ⟨_, _, ⟨T264, L264, k264, n264⟩, -, X264, ⟨Lc264, hQ264, l264, y264, z264⟩, st264⟩ := X262.virtualBack hx (y := (⟨"com/example/tidegraph/tidegraph/graph/ElementList", "get", "(I)Ljava/lang/Object;"⟩ : MethodName)) (z := (⟨"com/example/tidegraph/tidegraph/graph/ElementList", "get", "(I)Ljava/lang/Object;"⟩ : MethodName)) hown (mvT hZ (hw _ (List.mem_of_getElem? (i := 75) rfl))) (mvT hZ (hw _ (List.mem_of_getElem? (i := 76) rfl))) (notFace_of_selects (args := #[]) (mvT hZ (hw _ (List.mem_of_getElem? (i := 78) rfl)))) (mvT hZ (hw _ (List.mem_of_getElem? (i := 78) rfl))) (mvT hZ (hw _ (List.mem_of_getElem? (i := 77) rfl))) (by decide) (backOf (W := 0) (rm12 l Z a0 hw [] b1 (3 : Int32) ar165 k2165 (8 : Int32) [(.ref r18), (.ref r43), (.ref r72), (.ref r105), (.ref r142), (.ref r192), .null, .null] (6 : Int32) r105 T219.heap n0 z240 Fe219 Fs219 Va219 (by decide) (by decide) rfl) hZ (hw _ (List.mem_of_getElem? (i := 79) rfl)) (hw _ (List.mem_of_getElem? (i := 3) rfl)) (by decide) (by decide)) q264a q264c (g := (mkF m 148 #[.val (.int p1), .val (.int p2), .val (.int p3), .val (.int p4), .val (.int p5), .val (.int p6), .val (.int N_), .val (.int (3 : Int32)), .val (.int (p3 ^^^ (-1 : Int32))), .val (.int (p4 ^^^ (-1 : Int32))), .val (.ref b1), .val (.int (own_at (3 : Int32) p3 p4 p5 p6 (p3 ^^^ (-1 : Int32)) (p4 ^^^ (-1 : Int32)))), .unset] [(.int (3 : Int32)), (.ref b1)])) rfl (by rw [hml]; rfl) (Steps.refl _) (argsL := [(.int (3 : Int32))]) (rest := []) (lenOf pd_8 rfl) rfl (by show 2 * 0 + _ ≤ _; exact Nat.le_of_eq rfl) (hb hby at_148) (fun _ _ => ⟨rfl, e262, (by decide : 9 + 0 ≤ _), (by decide : 21 + 0 ≤ _)⟩)
              dsimp only [Pt.U, Pt.locs, Pt.cells, Pt.slots] at X264 l264 y264 z264 st264 hQ264
              subst l264 y264 z264
              obtain ⟨rfl, N264q, e264⟩ := hQ264
              have N265 := Fr.app N263 N264q
              refine Go.via (S' := T264.setTop (mkF m 151 #[.val (.int p1), .val (.int p2), .val (.int p3), .val (.int p4), .val (.int p5), .val (.int p6), .val (.int N_), .val (.int (3 : Int32)), .val (.int (p3 ^^^ (-1 : Int32))), .val (.int (p4 ^^^ (-1 : Int32))), .val (.ref b1), .val (.int (own_at (3 : Int32) p3 p4 p5 p6 (p3 ^^^ (-1 : Int32)) (p4 ^^^ (-1 : Int32)))), .unset] [(.ref r105)])) (fun _ k => st264.trans k) ?_
              obtain ⟨T266, X266, e266, st266⟩ := castY X264 hx hZ hown (hw _ (List.mem_of_getElem? (i := 80) rfl)) e264 (Ins.self f232) (g := (mkF m 151 #[.val (.int p1), .val (.int p2), .val (.int p3), .val (.int p4), .val (.int p5), .val (.int p6), .val (.int N_), .val (.int (3 : Int32)), .val (.int (p3 ^^^ (-1 : Int32))), .val (.int (p4 ^^^ (-1 : Int32))), .val (.ref b1), .val (.int (own_at (3 : Int32) p3 p4 p5 p6 (p3 ^^^ (-1 : Int32)) (p4 ^^^ (-1 : Int32)))), .unset] [(.ref r105)])) rfl rfl (hb hby at_151)
              refine Go.via (S' := T266.setTop (mkF m 154 #[.val (.int p1), .val (.int p2), .val (.int p3), .val (.int p4), .val (.int p5), .val (.int p6), .val (.int N_), .val (.int (3 : Int32)), .val (.int (p3 ^^^ (-1 : Int32))), .val (.int (p4 ^^^ (-1 : Int32))), .val (.ref b1), .val (.int (own_at (3 : Int32) p3 p4 p5 p6 (p3 ^^^ (-1 : Int32)) (p4 ^^^ (-1 : Int32)))), .unset] [(.ref r105)])) (fun _ k => st266 _ k) ?_
              refine Go.via (S' := T266.setTop (mkF m 156 #[.val (.int p1), .val (.int p2), .val (.int p3), .val (.int p4), .val (.int p5), .val (.int p6), .val (.int N_), .val (.int (3 : Int32)), .val (.int (p3 ^^^ (-1 : Int32))), .val (.int (p4 ^^^ (-1 : Int32))), .val (.ref b1), .val (.int (own_at (3 : Int32) p3 p4 p5 p6 (p3 ^^^ (-1 : Int32)) (p4 ^^^ (-1 : Int32)))), .val (.ref r105)] [])) (fun _ k => XS.astore X266.here hx rfl (hb hby at_154) rfl rfl (l' := #[.val (.int p1), .val (.int p2), .val (.int p3), .val (.int p4), .val (.int p5), .val (.int p6), .val (.int N_), .val (.int (3 : Int32)), .val (.int (p3 ^^^ (-1 : Int32))), .val (.int (p4 ^^^ (-1 : Int32))), .val (.ref b1), .val (.int (own_at (3 : Int32) p3 p4 p5 p6 (p3 ^^^ (-1 : Int32)) (p4 ^^^ (-1 : Int32)))), .val (.ref r105)]) rfl k) ?_
              refine Go.via (S' := T266.setTop (mkF m 158 #[.val (.int p1), .val (.int p2), .val (.int p3), .val (.int p4), .val (.int p5), .val (.int p6), .val (.int N_), .val (.int (3 : Int32)), .val (.int (p3 ^^^ (-1 : Int32))), .val (.int (p4 ^^^ (-1 : Int32))), .val (.ref b1), .val (.int (own_at (3 : Int32) p3 p4 p5 p6 (p3 ^^^ (-1 : Int32)) (p4 ^^^ (-1 : Int32)))), .val (.ref r105)] [(.ref r105)])) (fun _ k => XS.aload X266.here hx rfl (hb hby at_156) rfl rfl k) ?_
              refine Go.via (S' := T266.setTop (mkF m 163 #[.val (.int p1), .val (.int p2), .val (.int p3), .val (.int p4), .val (.int p5), .val (.int p6), .val (.int N_), .val (.int (3 : Int32)), .val (.int (p3 ^^^ (-1 : Int32))), .val (.int (p4 ^^^ (-1 : Int32))), .val (.ref b1), .val (.int (own_at (3 : Int32) p3 p4 p5 p6 (p3 ^^^ (-1 : Int32)) (p4 ^^^ (-1 : Int32)))), .val (.ref r105)] [])) (fun _ k => XS.ifnonnullYes X266.here hx rfl (pc0 := 158) (pc' := 163) rfl (hb hby at_158) rfl (by decide) (by decide) k) ?_
              refine Go.via (S' := T266.setTop (mkF m 165 #[.val (.int p1), .val (.int p2), .val (.int p3), .val (.int p4), .val (.int p5), .val (.int p6), .val (.int N_), .val (.int (3 : Int32)), .val (.int (p3 ^^^ (-1 : Int32))), .val (.int (p4 ^^^ (-1 : Int32))), .val (.ref b1), .val (.int (own_at (3 : Int32) p3 p4 p5 p6 (p3 ^^^ (-1 : Int32)) (p4 ^^^ (-1 : Int32)))), .val (.ref r105)] [(.ref r105)])) (fun _ k => XS.aload X266.here hx rfl (hb hby at_163) rfl rfl k) ?_
              obtain ⟨cq267, kq267, q267a, q267b, q267c⟩ := isOf hZ e266 f232
              obtain ⟨_, _, ⟨T267, L267, k267, n267⟩, -, X267, ⟨Lc267, hQ267, l267, y267, z267⟩, st267⟩ := X266.virtualBack hx (y := (⟨"java/lang/Integer", "intValue", "()I"⟩ : MethodName)) (z := (⟨"java/lang/Integer", "intValue", "()I"⟩ : MethodName)) hown (mvT hZ (hw _ (List.mem_of_getElem? (i := 82) rfl))) (mvT hZ (hw _ (List.mem_of_getElem? (i := 83) rfl))) (notFace_of_selects (args := #[]) (mvT hZ (hw _ (List.mem_of_getElem? (i := 85) rfl)))) (mvT hZ (hw _ (List.mem_of_getElem? (i := 85) rfl))) (mvT hZ (hw _ (List.mem_of_getElem? (i := 84) rfl))) (by decide) (backOf (W := 0) (rm13 l Z a0 hw [] r105 p6 T219.heap n0 z240 f233) hZ (hw _ (List.mem_of_getElem? (i := 86) rfl)) (hw _ (List.mem_of_getElem? (i := 29) rfl)) (by decide) (by decide)) q267a q267c (g := (mkF m 165 #[.val (.int p1), .val (.int p2), .val (.int p3), .val (.int p4), .val (.int p5), .val (.int p6), .val (.int N_), .val (.int (3 : Int32)), .val (.int (p3 ^^^ (-1 : Int32))), .val (.int (p4 ^^^ (-1 : Int32))), .val (.ref b1), .val (.int (own_at (3 : Int32) p3 p4 p5 p6 (p3 ^^^ (-1 : Int32)) (p4 ^^^ (-1 : Int32)))), .val (.ref r105)] [(.ref r105)])) rfl (by rw [hml]; rfl) (Steps.refl _) (argsL := []) (rest := []) (lenOf pd_9 rfl) rfl (by show 2 * 0 + _ ≤ _; exact Nat.le_of_eq rfl) (hb hby at_165) (fun _ _ => ⟨rfl, e266, (by decide : 9 + 0 ≤ _), (by decide : 21 + 0 ≤ _)⟩)
              dsimp only [Pt.U, Pt.locs, Pt.cells, Pt.slots] at X267 l267 y267 z267 st267 hQ267
              subst l267 y267 z267
              obtain ⟨rfl, N267q, e267⟩ := hQ267
              have N268 := Fr.app N265 N267q
              refine Go.via (S' := T267.setTop (mkF m 168 #[.val (.int p1), .val (.int p2), .val (.int p3), .val (.int p4), .val (.int p5), .val (.int p6), .val (.int N_), .val (.int (3 : Int32)), .val (.int (p3 ^^^ (-1 : Int32))), .val (.int (p4 ^^^ (-1 : Int32))), .val (.ref b1), .val (.int (own_at (3 : Int32) p3 p4 p5 p6 (p3 ^^^ (-1 : Int32)) (p4 ^^^ (-1 : Int32)))), .val (.ref r105)] [(.int p6)])) (fun _ k => st267.trans k) ?_
              refine Go.via (S' := T267.setTop (mkF m 170 #[.val (.int p1), .val (.int p2), .val (.int p3), .val (.int p4), .val (.int p5), .val (.int p6), .val (.int N_), .val (.int (3 : Int32)), .val (.int (p3 ^^^ (-1 : Int32))), .val (.int (p4 ^^^ (-1 : Int32))), .val (.ref b1), .val (.int (own_at (3 : Int32) p3 p4 p5 p6 (p3 ^^^ (-1 : Int32)) (p4 ^^^ (-1 : Int32)))), .val (.ref r105)] [(.int (own_at (3 : Int32) p3 p4 p5 p6 (p3 ^^^ (-1 : Int32)) (p4 ^^^ (-1 : Int32)))), (.int p6)])) (fun _ k => XS.iload X267.here hx rfl (hb hby at_168) rfl k) ?_
              refine Go.via (S' := T267.setTop (mkF m 173 #[.val (.int p1), .val (.int p2), .val (.int p3), .val (.int p4), .val (.int p5), .val (.int p6), .val (.int N_), .val (.int (3 : Int32)), .val (.int (p3 ^^^ (-1 : Int32))), .val (.int (p4 ^^^ (-1 : Int32))), .val (.ref b1), .val (.int (own_at (3 : Int32) p3 p4 p5 p6 (p3 ^^^ (-1 : Int32)) (p4 ^^^ (-1 : Int32)))), .val (.ref r105)] [])) (fun _ k => XS.icmpNo X267.here hx rfl (hb hby at_170) rfl (teq (by simp [own_at])).2 k) ?_
              refine Go.via (S' := T267.setTop (mkF m 174 #[.val (.int p1), .val (.int p2), .val (.int p3), .val (.int p4), .val (.int p5), .val (.int p6), .val (.int N_), .val (.int (3 : Int32)), .val (.int (p3 ^^^ (-1 : Int32))), .val (.int (p4 ^^^ (-1 : Int32))), .val (.ref b1), .val (.int (own_at (3 : Int32) p3 p4 p5 p6 (p3 ^^^ (-1 : Int32)) (p4 ^^^ (-1 : Int32)))), .val (.ref r105)] [(.int (1 : Int32))])) (fun _ k => XS.iconst X267.here hx rfl (hb hby at_173) k) ?_
              refine Go.via (S' := T267.setTop (mkF m 178 #[.val (.int p1), .val (.int p2), .val (.int p3), .val (.int p4), .val (.int p5), .val (.int p6), .val (.int N_), .val (.int (3 : Int32)), .val (.int (p3 ^^^ (-1 : Int32))), .val (.int (p4 ^^^ (-1 : Int32))), .val (.ref b1), .val (.int (own_at (3 : Int32) p3 p4 p5 p6 (p3 ^^^ (-1 : Int32)) (p4 ^^^ (-1 : Int32)))), .val (.ref r105)] [(.int (1 : Int32))])) (fun _ k => XS.goto X267.here hx rfl (pc0 := 174) (pc' := 178) rfl (hb hby at_174) (by decide) (by decide) k) ?_
              exact Go.retB X267 hx (BodyLoose.notSynchronized Bd) Bd.returns (hb hby at_178) rfl (by rw [e267]; exact ⟨rfl, N268⟩) (by decide) (by decide)
            · obtain rfl : I_ = (4 : Int32) := Int32.toInt_inj.mp hi
              refine Go.via (S' := T219.setTop (mkF m 129 #[.val (.int p1), .val (.int p2), .val (.int p3), .val (.int p4), .val (.int p5), .val (.int p6), .val (.int N_), .val (.int (4 : Int32)), .val (.int (p3 ^^^ (-1 : Int32))), .val (.int (p4 ^^^ (-1 : Int32))), .val (.ref b1), .unset, .unset] [(.int (4 : Int32))])) (fun _ k => XS.iload X219.here hx rfl (hb hby at_127) rfl k) ?_
              refine Go.via (S' := T219.setTop (mkF m 130 #[.val (.int p1), .val (.int p2), .val (.int p3), .val (.int p4), .val (.int p5), .val (.int p6), .val (.int N_), .val (.int (4 : Int32)), .val (.int (p3 ^^^ (-1 : Int32))), .val (.int (p4 ^^^ (-1 : Int32))), .val (.ref b1), .unset, .unset] [(.int p3), (.int (4 : Int32))])) (fun _ k => XS.iloadN X219.here hx rfl (hb hby at_129) rfl k) ?_
              refine Go.via (S' := T219.setTop (mkF m 131 #[.val (.int p1), .val (.int p2), .val (.int p3), .val (.int p4), .val (.int p5), .val (.int p6), .val (.int N_), .val (.int (4 : Int32)), .val (.int (p3 ^^^ (-1 : Int32))), .val (.int (p4 ^^^ (-1 : Int32))), .val (.ref b1), .unset, .unset] [(.int p4), (.int p3), (.int (4 : Int32))])) (fun _ k => XS.iloadN X219.here hx rfl (hb hby at_130) rfl k) ?_
              refine Go.via (S' := T219.setTop (mkF m 133 #[.val (.int p1), .val (.int p2), .val (.int p3), .val (.int p4), .val (.int p5), .val (.int p6), .val (.int N_), .val (.int (4 : Int32)), .val (.int (p3 ^^^ (-1 : Int32))), .val (.int (p4 ^^^ (-1 : Int32))), .val (.ref b1), .unset, .unset] [(.int p5), (.int p4), (.int p3), (.int (4 : Int32))])) (fun _ k => XS.iload X219.here hx rfl (hb hby at_131) rfl k) ?_
              refine Go.via (S' := T219.setTop (mkF m 135 #[.val (.int p1), .val (.int p2), .val (.int p3), .val (.int p4), .val (.int p5), .val (.int p6), .val (.int N_), .val (.int (4 : Int32)), .val (.int (p3 ^^^ (-1 : Int32))), .val (.int (p4 ^^^ (-1 : Int32))), .val (.ref b1), .unset, .unset] [(.int p6), (.int p5), (.int p4), (.int p3), (.int (4 : Int32))])) (fun _ k => XS.iload X219.here hx rfl (hb hby at_133) rfl k) ?_
              refine Go.via (S' := T219.setTop (mkF m 137 #[.val (.int p1), .val (.int p2), .val (.int p3), .val (.int p4), .val (.int p5), .val (.int p6), .val (.int N_), .val (.int (4 : Int32)), .val (.int (p3 ^^^ (-1 : Int32))), .val (.int (p4 ^^^ (-1 : Int32))), .val (.ref b1), .unset, .unset] [(.int (p3 ^^^ (-1 : Int32))), (.int p6), (.int p5), (.int p4), (.int p3), (.int (4 : Int32))])) (fun _ k => XS.iload X219.here hx rfl (hb hby at_135) rfl k) ?_
              refine Go.via (S' := T219.setTop (mkF m 139 #[.val (.int p1), .val (.int p2), .val (.int p3), .val (.int p4), .val (.int p5), .val (.int p6), .val (.int N_), .val (.int (4 : Int32)), .val (.int (p3 ^^^ (-1 : Int32))), .val (.int (p4 ^^^ (-1 : Int32))), .val (.ref b1), .unset, .unset] [(.int (p4 ^^^ (-1 : Int32))), (.int (p3 ^^^ (-1 : Int32))), (.int p6), (.int p5), (.int p4), (.int p3), (.int (4 : Int32))])) (fun _ k => XS.iload X219.here hx rfl (hb hby at_137) rfl k) ?_
              obtain ⟨_, _, ⟨T269, L269, k269, n269⟩, -, X269, ⟨Lc269, hQ269, l269, y269, z269⟩, st269⟩ := Jvm.LawKit.callS X219 hx (y := (⟨"com/example/tidegraph/tidegraph/graph/ElementListGetPinLaw", "expectedAt", "(IIIIIII)I"⟩ : MethodName)) hown (mvT hZ (hw _ (List.mem_of_getElem? (i := 71) rfl))) (mvT hZ (hw _ (List.mem_of_getElem? (i := 72) rfl))) (mvT hZ (hw _ (List.mem_of_getElem? (i := 73) rfl))) (mvT hZ (hw _ (List.mem_of_getElem? (i := 74) rfl))) (by decide) (backOf (W := 0) (rm11 l Z a0 hw [] (4 : Int32) p3 p4 p5 p6 (p3 ^^^ (-1 : Int32)) (p4 ^^^ (-1 : Int32)) T219.heap n0 z240) hZ (hw _ (List.mem_of_getElem? (i := 74) rfl)) (hw _ (List.mem_of_getElem? (i := 73) rfl)) (by decide) (by decide)) (g := (mkF m 139 #[.val (.int p1), .val (.int p2), .val (.int p3), .val (.int p4), .val (.int p5), .val (.int p6), .val (.int N_), .val (.int (4 : Int32)), .val (.int (p3 ^^^ (-1 : Int32))), .val (.int (p4 ^^^ (-1 : Int32))), .val (.ref b1), .unset, .unset] [(.int (p4 ^^^ (-1 : Int32))), (.int (p3 ^^^ (-1 : Int32))), (.int p6), (.int p5), (.int p4), (.int p3), (.int (4 : Int32))])) rfl (by rw [hml]; rfl) (argsL := [(.int (4 : Int32)), (.int p3), (.int p4), (.int p5), (.int p6), (.int (p3 ^^^ (-1 : Int32))), (.int (p4 ^^^ (-1 : Int32)))]) (rest := []) (lenOf pd_7 rfl) rfl (by show 2 * 0 + _ ≤ _; exact Nat.le_of_eq rfl) (hb hby at_139) (fun _ _ => ⟨rfl, rfl, (by decide : 9 + 0 ≤ _), (by decide : 21 + 0 ≤ _)⟩)
              dsimp only [Pt.U, Pt.locs, Pt.cells, Pt.slots] at X269 l269 y269 z269 st269 hQ269
              subst l269 y269 z269
              obtain ⟨rfl, N269q, e269⟩ := hQ269
              have N270 := Fr.app N220 N269q
              refine Go.via (S' := T269.setTop (mkF m 142 #[.val (.int p1), .val (.int p2), .val (.int p3), .val (.int p4), .val (.int p5), .val (.int p6), .val (.int N_), .val (.int (4 : Int32)), .val (.int (p3 ^^^ (-1 : Int32))), .val (.int (p4 ^^^ (-1 : Int32))), .val (.ref b1), .unset, .unset] [(.int (own_at (4 : Int32) p3 p4 p5 p6 (p3 ^^^ (-1 : Int32)) (p4 ^^^ (-1 : Int32))))])) (fun _ k => st269 _ k) ?_
              refine Go.via (S' := T269.setTop (mkF m 144 #[.val (.int p1), .val (.int p2), .val (.int p3), .val (.int p4), .val (.int p5), .val (.int p6), .val (.int N_), .val (.int (4 : Int32)), .val (.int (p3 ^^^ (-1 : Int32))), .val (.int (p4 ^^^ (-1 : Int32))), .val (.ref b1), .val (.int (own_at (4 : Int32) p3 p4 p5 p6 (p3 ^^^ (-1 : Int32)) (p4 ^^^ (-1 : Int32)))), .unset] [])) (fun _ k => XS.istore X269.here hx rfl (hb hby at_142) rfl (l' := #[.val (.int p1), .val (.int p2), .val (.int p3), .val (.int p4), .val (.int p5), .val (.int p6), .val (.int N_), .val (.int (4 : Int32)), .val (.int (p3 ^^^ (-1 : Int32))), .val (.int (p4 ^^^ (-1 : Int32))), .val (.ref b1), .val (.int (own_at (4 : Int32) p3 p4 p5 p6 (p3 ^^^ (-1 : Int32)) (p4 ^^^ (-1 : Int32)))), .unset]) rfl k) ?_
              refine Go.via (S' := T269.setTop (mkF m 146 #[.val (.int p1), .val (.int p2), .val (.int p3), .val (.int p4), .val (.int p5), .val (.int p6), .val (.int N_), .val (.int (4 : Int32)), .val (.int (p3 ^^^ (-1 : Int32))), .val (.int (p4 ^^^ (-1 : Int32))), .val (.ref b1), .val (.int (own_at (4 : Int32) p3 p4 p5 p6 (p3 ^^^ (-1 : Int32)) (p4 ^^^ (-1 : Int32)))), .unset] [(.ref b1)])) (fun _ k => XS.aload X269.here hx rfl (hb hby at_144) rfl rfl k) ?_
              refine Go.via (S' := T269.setTop (mkF m 148 #[.val (.int p1), .val (.int p2), .val (.int p3), .val (.int p4), .val (.int p5), .val (.int p6), .val (.int N_), .val (.int (4 : Int32)), .val (.int (p3 ^^^ (-1 : Int32))), .val (.int (p4 ^^^ (-1 : Int32))), .val (.ref b1), .val (.int (own_at (4 : Int32) p3 p4 p5 p6 (p3 ^^^ (-1 : Int32)) (p4 ^^^ (-1 : Int32)))), .unset] [(.int (4 : Int32)), (.ref b1)])) (fun _ k => XS.iload X269.here hx rfl (hb hby at_146) rfl k) ?_
              obtain ⟨cq271, kq271, q271a, q271b, q271c⟩ := isOf hZ e269 f224
              obtain ⟨_, _, ⟨T271, L271, k271, n271⟩, -, X271, ⟨Lc271, hQ271, l271, y271, z271⟩, st271⟩ := X269.virtualBack hx (y := (⟨"com/example/tidegraph/tidegraph/graph/ElementList", "get", "(I)Ljava/lang/Object;"⟩ : MethodName)) (z := (⟨"com/example/tidegraph/tidegraph/graph/ElementList", "get", "(I)Ljava/lang/Object;"⟩ : MethodName)) hown (mvT hZ (hw _ (List.mem_of_getElem? (i := 75) rfl))) (mvT hZ (hw _ (List.mem_of_getElem? (i := 76) rfl))) (notFace_of_selects (args := #[]) (mvT hZ (hw _ (List.mem_of_getElem? (i := 78) rfl)))) (mvT hZ (hw _ (List.mem_of_getElem? (i := 78) rfl))) (mvT hZ (hw _ (List.mem_of_getElem? (i := 77) rfl))) (by decide) (backOf (W := 0) (rm12 l Z a0 hw [] b1 (4 : Int32) ar165 k2165 (8 : Int32) [(.ref r18), (.ref r43), (.ref r72), (.ref r105), (.ref r142), (.ref r192), .null, .null] (6 : Int32) r142 T219.heap n0 z240 Fe219 Fs219 Va219 (by decide) (by decide) rfl) hZ (hw _ (List.mem_of_getElem? (i := 79) rfl)) (hw _ (List.mem_of_getElem? (i := 3) rfl)) (by decide) (by decide)) q271a q271c (g := (mkF m 148 #[.val (.int p1), .val (.int p2), .val (.int p3), .val (.int p4), .val (.int p5), .val (.int p6), .val (.int N_), .val (.int (4 : Int32)), .val (.int (p3 ^^^ (-1 : Int32))), .val (.int (p4 ^^^ (-1 : Int32))), .val (.ref b1), .val (.int (own_at (4 : Int32) p3 p4 p5 p6 (p3 ^^^ (-1 : Int32)) (p4 ^^^ (-1 : Int32)))), .unset] [(.int (4 : Int32)), (.ref b1)])) rfl (by rw [hml]; rfl) (Steps.refl _) (argsL := [(.int (4 : Int32))]) (rest := []) (lenOf pd_8 rfl) rfl (by show 2 * 0 + _ ≤ _; exact Nat.le_of_eq rfl) (hb hby at_148) (fun _ _ => ⟨rfl, e269, (by decide : 9 + 0 ≤ _), (by decide : 21 + 0 ≤ _)⟩)
              dsimp only [Pt.U, Pt.locs, Pt.cells, Pt.slots] at X271 l271 y271 z271 st271 hQ271
              subst l271 y271 z271
              obtain ⟨rfl, N271q, e271⟩ := hQ271
              have N272 := Fr.app N270 N271q
              refine Go.via (S' := T271.setTop (mkF m 151 #[.val (.int p1), .val (.int p2), .val (.int p3), .val (.int p4), .val (.int p5), .val (.int p6), .val (.int N_), .val (.int (4 : Int32)), .val (.int (p3 ^^^ (-1 : Int32))), .val (.int (p4 ^^^ (-1 : Int32))), .val (.ref b1), .val (.int (own_at (4 : Int32) p3 p4 p5 p6 (p3 ^^^ (-1 : Int32)) (p4 ^^^ (-1 : Int32)))), .unset] [(.ref r142)])) (fun _ k => st271.trans k) ?_
              obtain ⟨T273, X273, e273, st273⟩ := castY X271 hx hZ hown (hw _ (List.mem_of_getElem? (i := 80) rfl)) e271 (Ins.self f235) (g := (mkF m 151 #[.val (.int p1), .val (.int p2), .val (.int p3), .val (.int p4), .val (.int p5), .val (.int p6), .val (.int N_), .val (.int (4 : Int32)), .val (.int (p3 ^^^ (-1 : Int32))), .val (.int (p4 ^^^ (-1 : Int32))), .val (.ref b1), .val (.int (own_at (4 : Int32) p3 p4 p5 p6 (p3 ^^^ (-1 : Int32)) (p4 ^^^ (-1 : Int32)))), .unset] [(.ref r142)])) rfl rfl (hb hby at_151)
              refine Go.via (S' := T273.setTop (mkF m 154 #[.val (.int p1), .val (.int p2), .val (.int p3), .val (.int p4), .val (.int p5), .val (.int p6), .val (.int N_), .val (.int (4 : Int32)), .val (.int (p3 ^^^ (-1 : Int32))), .val (.int (p4 ^^^ (-1 : Int32))), .val (.ref b1), .val (.int (own_at (4 : Int32) p3 p4 p5 p6 (p3 ^^^ (-1 : Int32)) (p4 ^^^ (-1 : Int32)))), .unset] [(.ref r142)])) (fun _ k => st273 _ k) ?_
              refine Go.via (S' := T273.setTop (mkF m 156 #[.val (.int p1), .val (.int p2), .val (.int p3), .val (.int p4), .val (.int p5), .val (.int p6), .val (.int N_), .val (.int (4 : Int32)), .val (.int (p3 ^^^ (-1 : Int32))), .val (.int (p4 ^^^ (-1 : Int32))), .val (.ref b1), .val (.int (own_at (4 : Int32) p3 p4 p5 p6 (p3 ^^^ (-1 : Int32)) (p4 ^^^ (-1 : Int32)))), .val (.ref r142)] [])) (fun _ k => XS.astore X273.here hx rfl (hb hby at_154) rfl rfl (l' := #[.val (.int p1), .val (.int p2), .val (.int p3), .val (.int p4), .val (.int p5), .val (.int p6), .val (.int N_), .val (.int (4 : Int32)), .val (.int (p3 ^^^ (-1 : Int32))), .val (.int (p4 ^^^ (-1 : Int32))), .val (.ref b1), .val (.int (own_at (4 : Int32) p3 p4 p5 p6 (p3 ^^^ (-1 : Int32)) (p4 ^^^ (-1 : Int32)))), .val (.ref r142)]) rfl k) ?_
              refine Go.via (S' := T273.setTop (mkF m 158 #[.val (.int p1), .val (.int p2), .val (.int p3), .val (.int p4), .val (.int p5), .val (.int p6), .val (.int N_), .val (.int (4 : Int32)), .val (.int (p3 ^^^ (-1 : Int32))), .val (.int (p4 ^^^ (-1 : Int32))), .val (.ref b1), .val (.int (own_at (4 : Int32) p3 p4 p5 p6 (p3 ^^^ (-1 : Int32)) (p4 ^^^ (-1 : Int32)))), .val (.ref r142)] [(.ref r142)])) (fun _ k => XS.aload X273.here hx rfl (hb hby at_156) rfl rfl k) ?_
              refine Go.via (S' := T273.setTop (mkF m 163 #[.val (.int p1), .val (.int p2), .val (.int p3), .val (.int p4), .val (.int p5), .val (.int p6), .val (.int N_), .val (.int (4 : Int32)), .val (.int (p3 ^^^ (-1 : Int32))), .val (.int (p4 ^^^ (-1 : Int32))), .val (.ref b1), .val (.int (own_at (4 : Int32) p3 p4 p5 p6 (p3 ^^^ (-1 : Int32)) (p4 ^^^ (-1 : Int32)))), .val (.ref r142)] [])) (fun _ k => XS.ifnonnullYes X273.here hx rfl (pc0 := 158) (pc' := 163) rfl (hb hby at_158) rfl (by decide) (by decide) k) ?_
              refine Go.via (S' := T273.setTop (mkF m 165 #[.val (.int p1), .val (.int p2), .val (.int p3), .val (.int p4), .val (.int p5), .val (.int p6), .val (.int N_), .val (.int (4 : Int32)), .val (.int (p3 ^^^ (-1 : Int32))), .val (.int (p4 ^^^ (-1 : Int32))), .val (.ref b1), .val (.int (own_at (4 : Int32) p3 p4 p5 p6 (p3 ^^^ (-1 : Int32)) (p4 ^^^ (-1 : Int32)))), .val (.ref r142)] [(.ref r142)])) (fun _ k => XS.aload X273.here hx rfl (hb hby at_163) rfl rfl k) ?_
              obtain ⟨cq274, kq274, q274a, q274b, q274c⟩ := isOf hZ e273 f235
              obtain ⟨_, _, ⟨T274, L274, k274, n274⟩, -, X274, ⟨Lc274, hQ274, l274, y274, z274⟩, st274⟩ := X273.virtualBack hx (y := (⟨"java/lang/Integer", "intValue", "()I"⟩ : MethodName)) (z := (⟨"java/lang/Integer", "intValue", "()I"⟩ : MethodName)) hown (mvT hZ (hw _ (List.mem_of_getElem? (i := 82) rfl))) (mvT hZ (hw _ (List.mem_of_getElem? (i := 83) rfl))) (notFace_of_selects (args := #[]) (mvT hZ (hw _ (List.mem_of_getElem? (i := 85) rfl)))) (mvT hZ (hw _ (List.mem_of_getElem? (i := 85) rfl))) (mvT hZ (hw _ (List.mem_of_getElem? (i := 84) rfl))) (by decide) (backOf (W := 0) (rm13 l Z a0 hw [] r142 (p3 ^^^ (-1 : Int32)) T219.heap n0 z240 f236) hZ (hw _ (List.mem_of_getElem? (i := 86) rfl)) (hw _ (List.mem_of_getElem? (i := 29) rfl)) (by decide) (by decide)) q274a q274c (g := (mkF m 165 #[.val (.int p1), .val (.int p2), .val (.int p3), .val (.int p4), .val (.int p5), .val (.int p6), .val (.int N_), .val (.int (4 : Int32)), .val (.int (p3 ^^^ (-1 : Int32))), .val (.int (p4 ^^^ (-1 : Int32))), .val (.ref b1), .val (.int (own_at (4 : Int32) p3 p4 p5 p6 (p3 ^^^ (-1 : Int32)) (p4 ^^^ (-1 : Int32)))), .val (.ref r142)] [(.ref r142)])) rfl (by rw [hml]; rfl) (Steps.refl _) (argsL := []) (rest := []) (lenOf pd_9 rfl) rfl (by show 2 * 0 + _ ≤ _; exact Nat.le_of_eq rfl) (hb hby at_165) (fun _ _ => ⟨rfl, e273, (by decide : 9 + 0 ≤ _), (by decide : 21 + 0 ≤ _)⟩)
              dsimp only [Pt.U, Pt.locs, Pt.cells, Pt.slots] at X274 l274 y274 z274 st274 hQ274
              subst l274 y274 z274
              obtain ⟨rfl, N274q, e274⟩ := hQ274
              have N275 := Fr.app N272 N274q
              refine Go.via (S' := T274.setTop (mkF m 168 #[.val (.int p1), .val (.int p2), .val (.int p3), .val (.int p4), .val (.int p5), .val (.int p6), .val (.int N_), .val (.int (4 : Int32)), .val (.int (p3 ^^^ (-1 : Int32))), .val (.int (p4 ^^^ (-1 : Int32))), .val (.ref b1), .val (.int (own_at (4 : Int32) p3 p4 p5 p6 (p3 ^^^ (-1 : Int32)) (p4 ^^^ (-1 : Int32)))), .val (.ref r142)] [(.int (p3 ^^^ (-1 : Int32)))])) (fun _ k => st274.trans k) ?_
              refine Go.via (S' := T274.setTop (mkF m 170 #[.val (.int p1), .val (.int p2), .val (.int p3), .val (.int p4), .val (.int p5), .val (.int p6), .val (.int N_), .val (.int (4 : Int32)), .val (.int (p3 ^^^ (-1 : Int32))), .val (.int (p4 ^^^ (-1 : Int32))), .val (.ref b1), .val (.int (own_at (4 : Int32) p3 p4 p5 p6 (p3 ^^^ (-1 : Int32)) (p4 ^^^ (-1 : Int32)))), .val (.ref r142)] [(.int (own_at (4 : Int32) p3 p4 p5 p6 (p3 ^^^ (-1 : Int32)) (p4 ^^^ (-1 : Int32)))), (.int (p3 ^^^ (-1 : Int32)))])) (fun _ k => XS.iload X274.here hx rfl (hb hby at_168) rfl k) ?_
              refine Go.via (S' := T274.setTop (mkF m 173 #[.val (.int p1), .val (.int p2), .val (.int p3), .val (.int p4), .val (.int p5), .val (.int p6), .val (.int N_), .val (.int (4 : Int32)), .val (.int (p3 ^^^ (-1 : Int32))), .val (.int (p4 ^^^ (-1 : Int32))), .val (.ref b1), .val (.int (own_at (4 : Int32) p3 p4 p5 p6 (p3 ^^^ (-1 : Int32)) (p4 ^^^ (-1 : Int32)))), .val (.ref r142)] [])) (fun _ k => XS.icmpNo X274.here hx rfl (hb hby at_170) rfl (teq (by simp [own_at])).2 k) ?_
              refine Go.via (S' := T274.setTop (mkF m 174 #[.val (.int p1), .val (.int p2), .val (.int p3), .val (.int p4), .val (.int p5), .val (.int p6), .val (.int N_), .val (.int (4 : Int32)), .val (.int (p3 ^^^ (-1 : Int32))), .val (.int (p4 ^^^ (-1 : Int32))), .val (.ref b1), .val (.int (own_at (4 : Int32) p3 p4 p5 p6 (p3 ^^^ (-1 : Int32)) (p4 ^^^ (-1 : Int32)))), .val (.ref r142)] [(.int (1 : Int32))])) (fun _ k => XS.iconst X274.here hx rfl (hb hby at_173) k) ?_
              refine Go.via (S' := T274.setTop (mkF m 178 #[.val (.int p1), .val (.int p2), .val (.int p3), .val (.int p4), .val (.int p5), .val (.int p6), .val (.int N_), .val (.int (4 : Int32)), .val (.int (p3 ^^^ (-1 : Int32))), .val (.int (p4 ^^^ (-1 : Int32))), .val (.ref b1), .val (.int (own_at (4 : Int32) p3 p4 p5 p6 (p3 ^^^ (-1 : Int32)) (p4 ^^^ (-1 : Int32)))), .val (.ref r142)] [(.int (1 : Int32))])) (fun _ k => XS.goto X274.here hx rfl (pc0 := 174) (pc' := 178) rfl (hb hby at_174) (by decide) (by decide) k) ?_
              exact Go.retB X274 hx (BodyLoose.notSynchronized Bd) Bd.returns (hb hby at_178) rfl (by rw [e274]; exact ⟨rfl, N275⟩) (by decide) (by decide)
            · obtain rfl : I_ = (5 : Int32) := Int32.toInt_inj.mp hi
              refine Go.via (S' := T219.setTop (mkF m 129 #[.val (.int p1), .val (.int p2), .val (.int p3), .val (.int p4), .val (.int p5), .val (.int p6), .val (.int N_), .val (.int (5 : Int32)), .val (.int (p3 ^^^ (-1 : Int32))), .val (.int (p4 ^^^ (-1 : Int32))), .val (.ref b1), .unset, .unset] [(.int (5 : Int32))])) (fun _ k => XS.iload X219.here hx rfl (hb hby at_127) rfl k) ?_
              refine Go.via (S' := T219.setTop (mkF m 130 #[.val (.int p1), .val (.int p2), .val (.int p3), .val (.int p4), .val (.int p5), .val (.int p6), .val (.int N_), .val (.int (5 : Int32)), .val (.int (p3 ^^^ (-1 : Int32))), .val (.int (p4 ^^^ (-1 : Int32))), .val (.ref b1), .unset, .unset] [(.int p3), (.int (5 : Int32))])) (fun _ k => XS.iloadN X219.here hx rfl (hb hby at_129) rfl k) ?_
              refine Go.via (S' := T219.setTop (mkF m 131 #[.val (.int p1), .val (.int p2), .val (.int p3), .val (.int p4), .val (.int p5), .val (.int p6), .val (.int N_), .val (.int (5 : Int32)), .val (.int (p3 ^^^ (-1 : Int32))), .val (.int (p4 ^^^ (-1 : Int32))), .val (.ref b1), .unset, .unset] [(.int p4), (.int p3), (.int (5 : Int32))])) (fun _ k => XS.iloadN X219.here hx rfl (hb hby at_130) rfl k) ?_
              refine Go.via (S' := T219.setTop (mkF m 133 #[.val (.int p1), .val (.int p2), .val (.int p3), .val (.int p4), .val (.int p5), .val (.int p6), .val (.int N_), .val (.int (5 : Int32)), .val (.int (p3 ^^^ (-1 : Int32))), .val (.int (p4 ^^^ (-1 : Int32))), .val (.ref b1), .unset, .unset] [(.int p5), (.int p4), (.int p3), (.int (5 : Int32))])) (fun _ k => XS.iload X219.here hx rfl (hb hby at_131) rfl k) ?_
              refine Go.via (S' := T219.setTop (mkF m 135 #[.val (.int p1), .val (.int p2), .val (.int p3), .val (.int p4), .val (.int p5), .val (.int p6), .val (.int N_), .val (.int (5 : Int32)), .val (.int (p3 ^^^ (-1 : Int32))), .val (.int (p4 ^^^ (-1 : Int32))), .val (.ref b1), .unset, .unset] [(.int p6), (.int p5), (.int p4), (.int p3), (.int (5 : Int32))])) (fun _ k => XS.iload X219.here hx rfl (hb hby at_133) rfl k) ?_
              refine Go.via (S' := T219.setTop (mkF m 137 #[.val (.int p1), .val (.int p2), .val (.int p3), .val (.int p4), .val (.int p5), .val (.int p6), .val (.int N_), .val (.int (5 : Int32)), .val (.int (p3 ^^^ (-1 : Int32))), .val (.int (p4 ^^^ (-1 : Int32))), .val (.ref b1), .unset, .unset] [(.int (p3 ^^^ (-1 : Int32))), (.int p6), (.int p5), (.int p4), (.int p3), (.int (5 : Int32))])) (fun _ k => XS.iload X219.here hx rfl (hb hby at_135) rfl k) ?_
              refine Go.via (S' := T219.setTop (mkF m 139 #[.val (.int p1), .val (.int p2), .val (.int p3), .val (.int p4), .val (.int p5), .val (.int p6), .val (.int N_), .val (.int (5 : Int32)), .val (.int (p3 ^^^ (-1 : Int32))), .val (.int (p4 ^^^ (-1 : Int32))), .val (.ref b1), .unset, .unset] [(.int (p4 ^^^ (-1 : Int32))), (.int (p3 ^^^ (-1 : Int32))), (.int p6), (.int p5), (.int p4), (.int p3), (.int (5 : Int32))])) (fun _ k => XS.iload X219.here hx rfl (hb hby at_137) rfl k) ?_
              obtain ⟨_, _, ⟨T276, L276, k276, n276⟩, -, X276, ⟨Lc276, hQ276, l276, y276, z276⟩, st276⟩ := Jvm.LawKit.callS X219 hx (y := (⟨"com/example/tidegraph/tidegraph/graph/ElementListGetPinLaw", "expectedAt", "(IIIIIII)I"⟩ : MethodName)) hown (mvT hZ (hw _ (List.mem_of_getElem? (i := 71) rfl))) (mvT hZ (hw _ (List.mem_of_getElem? (i := 72) rfl))) (mvT hZ (hw _ (List.mem_of_getElem? (i := 73) rfl))) (mvT hZ (hw _ (List.mem_of_getElem? (i := 74) rfl))) (by decide) (backOf (W := 0) (rm11 l Z a0 hw [] (5 : Int32) p3 p4 p5 p6 (p3 ^^^ (-1 : Int32)) (p4 ^^^ (-1 : Int32)) T219.heap n0 z240) hZ (hw _ (List.mem_of_getElem? (i := 74) rfl)) (hw _ (List.mem_of_getElem? (i := 73) rfl)) (by decide) (by decide)) (g := (mkF m 139 #[.val (.int p1), .val (.int p2), .val (.int p3), .val (.int p4), .val (.int p5), .val (.int p6), .val (.int N_), .val (.int (5 : Int32)), .val (.int (p3 ^^^ (-1 : Int32))), .val (.int (p4 ^^^ (-1 : Int32))), .val (.ref b1), .unset, .unset] [(.int (p4 ^^^ (-1 : Int32))), (.int (p3 ^^^ (-1 : Int32))), (.int p6), (.int p5), (.int p4), (.int p3), (.int (5 : Int32))])) rfl (by rw [hml]; rfl) (argsL := [(.int (5 : Int32)), (.int p3), (.int p4), (.int p5), (.int p6), (.int (p3 ^^^ (-1 : Int32))), (.int (p4 ^^^ (-1 : Int32)))]) (rest := []) (lenOf pd_7 rfl) rfl (by show 2 * 0 + _ ≤ _; exact Nat.le_of_eq rfl) (hb hby at_139) (fun _ _ => ⟨rfl, rfl, (by decide : 9 + 0 ≤ _), (by decide : 21 + 0 ≤ _)⟩)
              dsimp only [Pt.U, Pt.locs, Pt.cells, Pt.slots] at X276 l276 y276 z276 st276 hQ276
              subst l276 y276 z276
              obtain ⟨rfl, N276q, e276⟩ := hQ276
              have N277 := Fr.app N220 N276q
              refine Go.via (S' := T276.setTop (mkF m 142 #[.val (.int p1), .val (.int p2), .val (.int p3), .val (.int p4), .val (.int p5), .val (.int p6), .val (.int N_), .val (.int (5 : Int32)), .val (.int (p3 ^^^ (-1 : Int32))), .val (.int (p4 ^^^ (-1 : Int32))), .val (.ref b1), .unset, .unset] [(.int (own_at (5 : Int32) p3 p4 p5 p6 (p3 ^^^ (-1 : Int32)) (p4 ^^^ (-1 : Int32))))])) (fun _ k => st276 _ k) ?_
              refine Go.via (S' := T276.setTop (mkF m 144 #[.val (.int p1), .val (.int p2), .val (.int p3), .val (.int p4), .val (.int p5), .val (.int p6), .val (.int N_), .val (.int (5 : Int32)), .val (.int (p3 ^^^ (-1 : Int32))), .val (.int (p4 ^^^ (-1 : Int32))), .val (.ref b1), .val (.int (own_at (5 : Int32) p3 p4 p5 p6 (p3 ^^^ (-1 : Int32)) (p4 ^^^ (-1 : Int32)))), .unset] [])) (fun _ k => XS.istore X276.here hx rfl (hb hby at_142) rfl (l' := #[.val (.int p1), .val (.int p2), .val (.int p3), .val (.int p4), .val (.int p5), .val (.int p6), .val (.int N_), .val (.int (5 : Int32)), .val (.int (p3 ^^^ (-1 : Int32))), .val (.int (p4 ^^^ (-1 : Int32))), .val (.ref b1), .val (.int (own_at (5 : Int32) p3 p4 p5 p6 (p3 ^^^ (-1 : Int32)) (p4 ^^^ (-1 : Int32)))), .unset]) rfl k) ?_
              refine Go.via (S' := T276.setTop (mkF m 146 #[.val (.int p1), .val (.int p2), .val (.int p3), .val (.int p4), .val (.int p5), .val (.int p6), .val (.int N_), .val (.int (5 : Int32)), .val (.int (p3 ^^^ (-1 : Int32))), .val (.int (p4 ^^^ (-1 : Int32))), .val (.ref b1), .val (.int (own_at (5 : Int32) p3 p4 p5 p6 (p3 ^^^ (-1 : Int32)) (p4 ^^^ (-1 : Int32)))), .unset] [(.ref b1)])) (fun _ k => XS.aload X276.here hx rfl (hb hby at_144) rfl rfl k) ?_
              refine Go.via (S' := T276.setTop (mkF m 148 #[.val (.int p1), .val (.int p2), .val (.int p3), .val (.int p4), .val (.int p5), .val (.int p6), .val (.int N_), .val (.int (5 : Int32)), .val (.int (p3 ^^^ (-1 : Int32))), .val (.int (p4 ^^^ (-1 : Int32))), .val (.ref b1), .val (.int (own_at (5 : Int32) p3 p4 p5 p6 (p3 ^^^ (-1 : Int32)) (p4 ^^^ (-1 : Int32)))), .unset] [(.int (5 : Int32)), (.ref b1)])) (fun _ k => XS.iload X276.here hx rfl (hb hby at_146) rfl k) ?_
              obtain ⟨cq278, kq278, q278a, q278b, q278c⟩ := isOf hZ e276 f224
              obtain ⟨_, _, ⟨T278, L278, k278, n278⟩, -, X278, ⟨Lc278, hQ278, l278, y278, z278⟩, st278⟩ := X276.virtualBack hx (y := (⟨"com/example/tidegraph/tidegraph/graph/ElementList", "get", "(I)Ljava/lang/Object;"⟩ : MethodName)) (z := (⟨"com/example/tidegraph/tidegraph/graph/ElementList", "get", "(I)Ljava/lang/Object;"⟩ : MethodName)) hown (mvT hZ (hw _ (List.mem_of_getElem? (i := 75) rfl))) (mvT hZ (hw _ (List.mem_of_getElem? (i := 76) rfl))) (notFace_of_selects (args := #[]) (mvT hZ (hw _ (List.mem_of_getElem? (i := 78) rfl)))) (mvT hZ (hw _ (List.mem_of_getElem? (i := 78) rfl))) (mvT hZ (hw _ (List.mem_of_getElem? (i := 77) rfl))) (by decide) (backOf (W := 0) (rm12 l Z a0 hw [] b1 (5 : Int32) ar165 k2165 (8 : Int32) [(.ref r18), (.ref r43), (.ref r72), (.ref r105), (.ref r142), (.ref r192), .null, .null] (6 : Int32) r192 T219.heap n0 z240 Fe219 Fs219 Va219 (by decide) (by decide) rfl) hZ (hw _ (List.mem_of_getElem? (i := 79) rfl)) (hw _ (List.mem_of_getElem? (i := 3) rfl)) (by decide) (by decide)) q278a q278c (g := (mkF m 148 #[.val (.int p1), .val (.int p2), .val (.int p3), .val (.int p4), .val (.int p5), .val (.int p6), .val (.int N_), .val (.int (5 : Int32)), .val (.int (p3 ^^^ (-1 : Int32))), .val (.int (p4 ^^^ (-1 : Int32))), .val (.ref b1), .val (.int (own_at (5 : Int32) p3 p4 p5 p6 (p3 ^^^ (-1 : Int32)) (p4 ^^^ (-1 : Int32)))), .unset] [(.int (5 : Int32)), (.ref b1)])) rfl (by rw [hml]; rfl) (Steps.refl _) (argsL := [(.int (5 : Int32))]) (rest := []) (lenOf pd_8 rfl) rfl (by show 2 * 0 + _ ≤ _; exact Nat.le_of_eq rfl) (hb hby at_148) (fun _ _ => ⟨rfl, e276, (by decide : 9 + 0 ≤ _), (by decide : 21 + 0 ≤ _)⟩)
              dsimp only [Pt.U, Pt.locs, Pt.cells, Pt.slots] at X278 l278 y278 z278 st278 hQ278
              subst l278 y278 z278
              obtain ⟨rfl, N278q, e278⟩ := hQ278
              have N279 := Fr.app N277 N278q
              refine Go.via (S' := T278.setTop (mkF m 151 #[.val (.int p1), .val (.int p2), .val (.int p3), .val (.int p4), .val (.int p5), .val (.int p6), .val (.int N_), .val (.int (5 : Int32)), .val (.int (p3 ^^^ (-1 : Int32))), .val (.int (p4 ^^^ (-1 : Int32))), .val (.ref b1), .val (.int (own_at (5 : Int32) p3 p4 p5 p6 (p3 ^^^ (-1 : Int32)) (p4 ^^^ (-1 : Int32)))), .unset] [(.ref r192)])) (fun _ k => st278.trans k) ?_
              obtain ⟨T280, X280, e280, st280⟩ := castY X278 hx hZ hown (hw _ (List.mem_of_getElem? (i := 80) rfl)) e278 (Ins.self f238) (g := (mkF m 151 #[.val (.int p1), .val (.int p2), .val (.int p3), .val (.int p4), .val (.int p5), .val (.int p6), .val (.int N_), .val (.int (5 : Int32)), .val (.int (p3 ^^^ (-1 : Int32))), .val (.int (p4 ^^^ (-1 : Int32))), .val (.ref b1), .val (.int (own_at (5 : Int32) p3 p4 p5 p6 (p3 ^^^ (-1 : Int32)) (p4 ^^^ (-1 : Int32)))), .unset] [(.ref r192)])) rfl rfl (hb hby at_151)
              refine Go.via (S' := T280.setTop (mkF m 154 #[.val (.int p1), .val (.int p2), .val (.int p3), .val (.int p4), .val (.int p5), .val (.int p6), .val (.int N_), .val (.int (5 : Int32)), .val (.int (p3 ^^^ (-1 : Int32))), .val (.int (p4 ^^^ (-1 : Int32))), .val (.ref b1), .val (.int (own_at (5 : Int32) p3 p4 p5 p6 (p3 ^^^ (-1 : Int32)) (p4 ^^^ (-1 : Int32)))), .unset] [(.ref r192)])) (fun _ k => st280 _ k) ?_
              refine Go.via (S' := T280.setTop (mkF m 156 #[.val (.int p1), .val (.int p2), .val (.int p3), .val (.int p4), .val (.int p5), .val (.int p6), .val (.int N_), .val (.int (5 : Int32)), .val (.int (p3 ^^^ (-1 : Int32))), .val (.int (p4 ^^^ (-1 : Int32))), .val (.ref b1), .val (.int (own_at (5 : Int32) p3 p4 p5 p6 (p3 ^^^ (-1 : Int32)) (p4 ^^^ (-1 : Int32)))), .val (.ref r192)] [])) (fun _ k => XS.astore X280.here hx rfl (hb hby at_154) rfl rfl (l' := #[.val (.int p1), .val (.int p2), .val (.int p3), .val (.int p4), .val (.int p5), .val (.int p6), .val (.int N_), .val (.int (5 : Int32)), .val (.int (p3 ^^^ (-1 : Int32))), .val (.int (p4 ^^^ (-1 : Int32))), .val (.ref b1), .val (.int (own_at (5 : Int32) p3 p4 p5 p6 (p3 ^^^ (-1 : Int32)) (p4 ^^^ (-1 : Int32)))), .val (.ref r192)]) rfl k) ?_
              refine Go.via (S' := T280.setTop (mkF m 158 #[.val (.int p1), .val (.int p2), .val (.int p3), .val (.int p4), .val (.int p5), .val (.int p6), .val (.int N_), .val (.int (5 : Int32)), .val (.int (p3 ^^^ (-1 : Int32))), .val (.int (p4 ^^^ (-1 : Int32))), .val (.ref b1), .val (.int (own_at (5 : Int32) p3 p4 p5 p6 (p3 ^^^ (-1 : Int32)) (p4 ^^^ (-1 : Int32)))), .val (.ref r192)] [(.ref r192)])) (fun _ k => XS.aload X280.here hx rfl (hb hby at_156) rfl rfl k) ?_
              refine Go.via (S' := T280.setTop (mkF m 163 #[.val (.int p1), .val (.int p2), .val (.int p3), .val (.int p4), .val (.int p5), .val (.int p6), .val (.int N_), .val (.int (5 : Int32)), .val (.int (p3 ^^^ (-1 : Int32))), .val (.int (p4 ^^^ (-1 : Int32))), .val (.ref b1), .val (.int (own_at (5 : Int32) p3 p4 p5 p6 (p3 ^^^ (-1 : Int32)) (p4 ^^^ (-1 : Int32)))), .val (.ref r192)] [])) (fun _ k => XS.ifnonnullYes X280.here hx rfl (pc0 := 158) (pc' := 163) rfl (hb hby at_158) rfl (by decide) (by decide) k) ?_
              refine Go.via (S' := T280.setTop (mkF m 165 #[.val (.int p1), .val (.int p2), .val (.int p3), .val (.int p4), .val (.int p5), .val (.int p6), .val (.int N_), .val (.int (5 : Int32)), .val (.int (p3 ^^^ (-1 : Int32))), .val (.int (p4 ^^^ (-1 : Int32))), .val (.ref b1), .val (.int (own_at (5 : Int32) p3 p4 p5 p6 (p3 ^^^ (-1 : Int32)) (p4 ^^^ (-1 : Int32)))), .val (.ref r192)] [(.ref r192)])) (fun _ k => XS.aload X280.here hx rfl (hb hby at_163) rfl rfl k) ?_
              obtain ⟨cq281, kq281, q281a, q281b, q281c⟩ := isOf hZ e280 f238
              obtain ⟨_, _, ⟨T281, L281, k281, n281⟩, -, X281, ⟨Lc281, hQ281, l281, y281, z281⟩, st281⟩ := X280.virtualBack hx (y := (⟨"java/lang/Integer", "intValue", "()I"⟩ : MethodName)) (z := (⟨"java/lang/Integer", "intValue", "()I"⟩ : MethodName)) hown (mvT hZ (hw _ (List.mem_of_getElem? (i := 82) rfl))) (mvT hZ (hw _ (List.mem_of_getElem? (i := 83) rfl))) (notFace_of_selects (args := #[]) (mvT hZ (hw _ (List.mem_of_getElem? (i := 85) rfl)))) (mvT hZ (hw _ (List.mem_of_getElem? (i := 85) rfl))) (mvT hZ (hw _ (List.mem_of_getElem? (i := 84) rfl))) (by decide) (backOf (W := 0) (rm13 l Z a0 hw [] r192 (p4 ^^^ (-1 : Int32)) T219.heap n0 z240 f239) hZ (hw _ (List.mem_of_getElem? (i := 86) rfl)) (hw _ (List.mem_of_getElem? (i := 29) rfl)) (by decide) (by decide)) q281a q281c (g := (mkF m 165 #[.val (.int p1), .val (.int p2), .val (.int p3), .val (.int p4), .val (.int p5), .val (.int p6), .val (.int N_), .val (.int (5 : Int32)), .val (.int (p3 ^^^ (-1 : Int32))), .val (.int (p4 ^^^ (-1 : Int32))), .val (.ref b1), .val (.int (own_at (5 : Int32) p3 p4 p5 p6 (p3 ^^^ (-1 : Int32)) (p4 ^^^ (-1 : Int32)))), .val (.ref r192)] [(.ref r192)])) rfl (by rw [hml]; rfl) (Steps.refl _) (argsL := []) (rest := []) (lenOf pd_9 rfl) rfl (by show 2 * 0 + _ ≤ _; exact Nat.le_of_eq rfl) (hb hby at_165) (fun _ _ => ⟨rfl, e280, (by decide : 9 + 0 ≤ _), (by decide : 21 + 0 ≤ _)⟩)
              dsimp only [Pt.U, Pt.locs, Pt.cells, Pt.slots] at X281 l281 y281 z281 st281 hQ281
              subst l281 y281 z281
              obtain ⟨rfl, N281q, e281⟩ := hQ281
              have N282 := Fr.app N279 N281q
              refine Go.via (S' := T281.setTop (mkF m 168 #[.val (.int p1), .val (.int p2), .val (.int p3), .val (.int p4), .val (.int p5), .val (.int p6), .val (.int N_), .val (.int (5 : Int32)), .val (.int (p3 ^^^ (-1 : Int32))), .val (.int (p4 ^^^ (-1 : Int32))), .val (.ref b1), .val (.int (own_at (5 : Int32) p3 p4 p5 p6 (p3 ^^^ (-1 : Int32)) (p4 ^^^ (-1 : Int32)))), .val (.ref r192)] [(.int (p4 ^^^ (-1 : Int32)))])) (fun _ k => st281.trans k) ?_
              refine Go.via (S' := T281.setTop (mkF m 170 #[.val (.int p1), .val (.int p2), .val (.int p3), .val (.int p4), .val (.int p5), .val (.int p6), .val (.int N_), .val (.int (5 : Int32)), .val (.int (p3 ^^^ (-1 : Int32))), .val (.int (p4 ^^^ (-1 : Int32))), .val (.ref b1), .val (.int (own_at (5 : Int32) p3 p4 p5 p6 (p3 ^^^ (-1 : Int32)) (p4 ^^^ (-1 : Int32)))), .val (.ref r192)] [(.int (own_at (5 : Int32) p3 p4 p5 p6 (p3 ^^^ (-1 : Int32)) (p4 ^^^ (-1 : Int32)))), (.int (p4 ^^^ (-1 : Int32)))])) (fun _ k => XS.iload X281.here hx rfl (hb hby at_168) rfl k) ?_
              refine Go.via (S' := T281.setTop (mkF m 173 #[.val (.int p1), .val (.int p2), .val (.int p3), .val (.int p4), .val (.int p5), .val (.int p6), .val (.int N_), .val (.int (5 : Int32)), .val (.int (p3 ^^^ (-1 : Int32))), .val (.int (p4 ^^^ (-1 : Int32))), .val (.ref b1), .val (.int (own_at (5 : Int32) p3 p4 p5 p6 (p3 ^^^ (-1 : Int32)) (p4 ^^^ (-1 : Int32)))), .val (.ref r192)] [])) (fun _ k => XS.icmpNo X281.here hx rfl (hb hby at_170) rfl (teq (by simp [own_at])).2 k) ?_
              refine Go.via (S' := T281.setTop (mkF m 174 #[.val (.int p1), .val (.int p2), .val (.int p3), .val (.int p4), .val (.int p5), .val (.int p6), .val (.int N_), .val (.int (5 : Int32)), .val (.int (p3 ^^^ (-1 : Int32))), .val (.int (p4 ^^^ (-1 : Int32))), .val (.ref b1), .val (.int (own_at (5 : Int32) p3 p4 p5 p6 (p3 ^^^ (-1 : Int32)) (p4 ^^^ (-1 : Int32)))), .val (.ref r192)] [(.int (1 : Int32))])) (fun _ k => XS.iconst X281.here hx rfl (hb hby at_173) k) ?_
              refine Go.via (S' := T281.setTop (mkF m 178 #[.val (.int p1), .val (.int p2), .val (.int p3), .val (.int p4), .val (.int p5), .val (.int p6), .val (.int N_), .val (.int (5 : Int32)), .val (.int (p3 ^^^ (-1 : Int32))), .val (.int (p4 ^^^ (-1 : Int32))), .val (.ref b1), .val (.int (own_at (5 : Int32) p3 p4 p5 p6 (p3 ^^^ (-1 : Int32)) (p4 ^^^ (-1 : Int32)))), .val (.ref r192)] [(.int (1 : Int32))])) (fun _ k => XS.goto X281.here hx rfl (pc0 := 174) (pc' := 178) rfl (hb hby at_174) (by decide) (by decide) k) ?_
              exact Go.retB X281 hx (BodyLoose.notSynchronized Bd) Bd.returns (hb hby at_178) rfl (by rw [e281]; exact ⟨rfl, N282⟩) (by decide) (by decide)
          · refine Go.via (S' := T165.setTop (mkF m 127 #[.val (.int p1), .val (.int p2), .val (.int p3), .val (.int p4), .val (.int p5), .val (.int p6), .val (.int N_), .val (.int I_), .val (.int (p3 ^^^ (-1 : Int32))), .val (.int (p4 ^^^ (-1 : Int32))), .val (.ref b1), .unset, .unset] [])) (fun _ k => XS.icmpYes X165.here hx rfl (pc0 := 114) (pc' := 127) rfl (hb hby at_114) rfl (flt hc114).2.2.2 (by decide) (by decide) k) ?_
            have hm : I_.toInt < 5 := by
              have t51 : 1 < N_.toInt := by rw [Int32.lt_iff_toInt_lt] at hc51; exact hc51
              have t66 : 2 < N_.toInt := by rw [Int32.lt_iff_toInt_lt] at hc66; exact hc66
              have t82 : 3 < N_.toInt := by rw [Int32.lt_iff_toInt_lt] at hc82; exact hc82
              have t98 : 4 < N_.toInt := by rw [Int32.lt_iff_toInt_lt] at hc98; exact hc98
              have t114 : ¬ (5 < N_.toInt) := by rw [Int32.lt_iff_toInt_lt] at hc114; exact hc114
              have := hN.2
              have := hI.2
              omega
            rcases (by have := hI.1; omega : I_.toInt = 0 ∨ I_.toInt = 1 ∨ I_.toInt = 2 ∨ I_.toInt = 3 ∨ I_.toInt = 4) with hi | hi | hi | hi | hi
            · obtain rfl : I_ = (0 : Int32) := Int32.toInt_inj.mp hi
              refine Go.via (S' := T165.setTop (mkF m 129 #[.val (.int p1), .val (.int p2), .val (.int p3), .val (.int p4), .val (.int p5), .val (.int p6), .val (.int N_), .val (.int (0 : Int32)), .val (.int (p3 ^^^ (-1 : Int32))), .val (.int (p4 ^^^ (-1 : Int32))), .val (.ref b1), .unset, .unset] [(.int (0 : Int32))])) (fun _ k => XS.iload X165.here hx rfl (hb hby at_127) rfl k) ?_
              refine Go.via (S' := T165.setTop (mkF m 130 #[.val (.int p1), .val (.int p2), .val (.int p3), .val (.int p4), .val (.int p5), .val (.int p6), .val (.int N_), .val (.int (0 : Int32)), .val (.int (p3 ^^^ (-1 : Int32))), .val (.int (p4 ^^^ (-1 : Int32))), .val (.ref b1), .unset, .unset] [(.int p3), (.int (0 : Int32))])) (fun _ k => XS.iloadN X165.here hx rfl (hb hby at_129) rfl k) ?_
              refine Go.via (S' := T165.setTop (mkF m 131 #[.val (.int p1), .val (.int p2), .val (.int p3), .val (.int p4), .val (.int p5), .val (.int p6), .val (.int N_), .val (.int (0 : Int32)), .val (.int (p3 ^^^ (-1 : Int32))), .val (.int (p4 ^^^ (-1 : Int32))), .val (.ref b1), .unset, .unset] [(.int p4), (.int p3), (.int (0 : Int32))])) (fun _ k => XS.iloadN X165.here hx rfl (hb hby at_130) rfl k) ?_
              refine Go.via (S' := T165.setTop (mkF m 133 #[.val (.int p1), .val (.int p2), .val (.int p3), .val (.int p4), .val (.int p5), .val (.int p6), .val (.int N_), .val (.int (0 : Int32)), .val (.int (p3 ^^^ (-1 : Int32))), .val (.int (p4 ^^^ (-1 : Int32))), .val (.ref b1), .unset, .unset] [(.int p5), (.int p4), (.int p3), (.int (0 : Int32))])) (fun _ k => XS.iload X165.here hx rfl (hb hby at_131) rfl k) ?_
              refine Go.via (S' := T165.setTop (mkF m 135 #[.val (.int p1), .val (.int p2), .val (.int p3), .val (.int p4), .val (.int p5), .val (.int p6), .val (.int N_), .val (.int (0 : Int32)), .val (.int (p3 ^^^ (-1 : Int32))), .val (.int (p4 ^^^ (-1 : Int32))), .val (.ref b1), .unset, .unset] [(.int p6), (.int p5), (.int p4), (.int p3), (.int (0 : Int32))])) (fun _ k => XS.iload X165.here hx rfl (hb hby at_133) rfl k) ?_
              refine Go.via (S' := T165.setTop (mkF m 137 #[.val (.int p1), .val (.int p2), .val (.int p3), .val (.int p4), .val (.int p5), .val (.int p6), .val (.int N_), .val (.int (0 : Int32)), .val (.int (p3 ^^^ (-1 : Int32))), .val (.int (p4 ^^^ (-1 : Int32))), .val (.ref b1), .unset, .unset] [(.int (p3 ^^^ (-1 : Int32))), (.int p6), (.int p5), (.int p4), (.int p3), (.int (0 : Int32))])) (fun _ k => XS.iload X165.here hx rfl (hb hby at_135) rfl k) ?_
              refine Go.via (S' := T165.setTop (mkF m 139 #[.val (.int p1), .val (.int p2), .val (.int p3), .val (.int p4), .val (.int p5), .val (.int p6), .val (.int N_), .val (.int (0 : Int32)), .val (.int (p3 ^^^ (-1 : Int32))), .val (.int (p4 ^^^ (-1 : Int32))), .val (.ref b1), .unset, .unset] [(.int (p4 ^^^ (-1 : Int32))), (.int (p3 ^^^ (-1 : Int32))), (.int p6), (.int p5), (.int p4), (.int p3), (.int (0 : Int32))])) (fun _ k => XS.iload X165.here hx rfl (hb hby at_137) rfl k) ?_
              obtain ⟨_, _, ⟨T283, L283, k283, n283⟩, -, X283, ⟨Lc283, hQ283, l283, y283, z283⟩, st283⟩ := Jvm.LawKit.callS X165 hx (y := (⟨"com/example/tidegraph/tidegraph/graph/ElementListGetPinLaw", "expectedAt", "(IIIIIII)I"⟩ : MethodName)) hown (mvT hZ (hw _ (List.mem_of_getElem? (i := 71) rfl))) (mvT hZ (hw _ (List.mem_of_getElem? (i := 72) rfl))) (mvT hZ (hw _ (List.mem_of_getElem? (i := 73) rfl))) (mvT hZ (hw _ (List.mem_of_getElem? (i := 74) rfl))) (by decide) (backOf (W := 0) (rm11 l Z a0 hw [] (0 : Int32) p3 p4 p5 p6 (p3 ^^^ (-1 : Int32)) (p4 ^^^ (-1 : Int32)) T165.heap n0 z183) hZ (hw _ (List.mem_of_getElem? (i := 74) rfl)) (hw _ (List.mem_of_getElem? (i := 73) rfl)) (by decide) (by decide)) (g := (mkF m 139 #[.val (.int p1), .val (.int p2), .val (.int p3), .val (.int p4), .val (.int p5), .val (.int p6), .val (.int N_), .val (.int (0 : Int32)), .val (.int (p3 ^^^ (-1 : Int32))), .val (.int (p4 ^^^ (-1 : Int32))), .val (.ref b1), .unset, .unset] [(.int (p4 ^^^ (-1 : Int32))), (.int (p3 ^^^ (-1 : Int32))), (.int p6), (.int p5), (.int p4), (.int p3), (.int (0 : Int32))])) rfl (by rw [hml]; rfl) (argsL := [(.int (0 : Int32)), (.int p3), (.int p4), (.int p5), (.int p6), (.int (p3 ^^^ (-1 : Int32))), (.int (p4 ^^^ (-1 : Int32)))]) (rest := []) (lenOf pd_7 rfl) rfl (by show 2 * 0 + _ ≤ _; exact Nat.le_of_eq rfl) (hb hby at_139) (fun _ _ => ⟨rfl, rfl, (by decide : 8 + 0 ≤ _), (by decide : 20 + 0 ≤ _)⟩)
              dsimp only [Pt.U, Pt.locs, Pt.cells, Pt.slots] at X283 l283 y283 z283 st283 hQ283
              subst l283 y283 z283
              obtain ⟨rfl, N283q, e283⟩ := hQ283
              have N284 := Fr.app N166 N283q
              refine Go.via (S' := T283.setTop (mkF m 142 #[.val (.int p1), .val (.int p2), .val (.int p3), .val (.int p4), .val (.int p5), .val (.int p6), .val (.int N_), .val (.int (0 : Int32)), .val (.int (p3 ^^^ (-1 : Int32))), .val (.int (p4 ^^^ (-1 : Int32))), .val (.ref b1), .unset, .unset] [(.int (own_at (0 : Int32) p3 p4 p5 p6 (p3 ^^^ (-1 : Int32)) (p4 ^^^ (-1 : Int32))))])) (fun _ k => st283 _ k) ?_
              refine Go.via (S' := T283.setTop (mkF m 144 #[.val (.int p1), .val (.int p2), .val (.int p3), .val (.int p4), .val (.int p5), .val (.int p6), .val (.int N_), .val (.int (0 : Int32)), .val (.int (p3 ^^^ (-1 : Int32))), .val (.int (p4 ^^^ (-1 : Int32))), .val (.ref b1), .val (.int (own_at (0 : Int32) p3 p4 p5 p6 (p3 ^^^ (-1 : Int32)) (p4 ^^^ (-1 : Int32)))), .unset] [])) (fun _ k => XS.istore X283.here hx rfl (hb hby at_142) rfl (l' := #[.val (.int p1), .val (.int p2), .val (.int p3), .val (.int p4), .val (.int p5), .val (.int p6), .val (.int N_), .val (.int (0 : Int32)), .val (.int (p3 ^^^ (-1 : Int32))), .val (.int (p4 ^^^ (-1 : Int32))), .val (.ref b1), .val (.int (own_at (0 : Int32) p3 p4 p5 p6 (p3 ^^^ (-1 : Int32)) (p4 ^^^ (-1 : Int32)))), .unset]) rfl k) ?_
              refine Go.via (S' := T283.setTop (mkF m 146 #[.val (.int p1), .val (.int p2), .val (.int p3), .val (.int p4), .val (.int p5), .val (.int p6), .val (.int N_), .val (.int (0 : Int32)), .val (.int (p3 ^^^ (-1 : Int32))), .val (.int (p4 ^^^ (-1 : Int32))), .val (.ref b1), .val (.int (own_at (0 : Int32) p3 p4 p5 p6 (p3 ^^^ (-1 : Int32)) (p4 ^^^ (-1 : Int32)))), .unset] [(.ref b1)])) (fun _ k => XS.aload X283.here hx rfl (hb hby at_144) rfl rfl k) ?_
              refine Go.via (S' := T283.setTop (mkF m 148 #[.val (.int p1), .val (.int p2), .val (.int p3), .val (.int p4), .val (.int p5), .val (.int p6), .val (.int N_), .val (.int (0 : Int32)), .val (.int (p3 ^^^ (-1 : Int32))), .val (.int (p4 ^^^ (-1 : Int32))), .val (.ref b1), .val (.int (own_at (0 : Int32) p3 p4 p5 p6 (p3 ^^^ (-1 : Int32)) (p4 ^^^ (-1 : Int32)))), .unset] [(.int (0 : Int32)), (.ref b1)])) (fun _ k => XS.iload X283.here hx rfl (hb hby at_146) rfl k) ?_
              obtain ⟨cq285, kq285, q285a, q285b, q285c⟩ := isOf hZ e283 f170
              obtain ⟨_, _, ⟨T285, L285, k285, n285⟩, -, X285, ⟨Lc285, hQ285, l285, y285, z285⟩, st285⟩ := X283.virtualBack hx (y := (⟨"com/example/tidegraph/tidegraph/graph/ElementList", "get", "(I)Ljava/lang/Object;"⟩ : MethodName)) (z := (⟨"com/example/tidegraph/tidegraph/graph/ElementList", "get", "(I)Ljava/lang/Object;"⟩ : MethodName)) hown (mvT hZ (hw _ (List.mem_of_getElem? (i := 75) rfl))) (mvT hZ (hw _ (List.mem_of_getElem? (i := 76) rfl))) (notFace_of_selects (args := #[]) (mvT hZ (hw _ (List.mem_of_getElem? (i := 78) rfl)))) (mvT hZ (hw _ (List.mem_of_getElem? (i := 78) rfl))) (mvT hZ (hw _ (List.mem_of_getElem? (i := 77) rfl))) (by decide) (backOf (W := 0) (rm12 l Z a0 hw [] b1 (0 : Int32) ar165 k2165 (8 : Int32) [(.ref r18), (.ref r43), (.ref r72), (.ref r105), (.ref r142), .null, .null, .null] (5 : Int32) r18 T165.heap n0 z183 Fe165 Fs165 Va165 (by decide) (by decide) rfl) hZ (hw _ (List.mem_of_getElem? (i := 79) rfl)) (hw _ (List.mem_of_getElem? (i := 3) rfl)) (by decide) (by decide)) q285a q285c (g := (mkF m 148 #[.val (.int p1), .val (.int p2), .val (.int p3), .val (.int p4), .val (.int p5), .val (.int p6), .val (.int N_), .val (.int (0 : Int32)), .val (.int (p3 ^^^ (-1 : Int32))), .val (.int (p4 ^^^ (-1 : Int32))), .val (.ref b1), .val (.int (own_at (0 : Int32) p3 p4 p5 p6 (p3 ^^^ (-1 : Int32)) (p4 ^^^ (-1 : Int32)))), .unset] [(.int (0 : Int32)), (.ref b1)])) rfl (by rw [hml]; rfl) (Steps.refl _) (argsL := [(.int (0 : Int32))]) (rest := []) (lenOf pd_8 rfl) rfl (by show 2 * 0 + _ ≤ _; exact Nat.le_of_eq rfl) (hb hby at_148) (fun _ _ => ⟨rfl, e283, (by decide : 8 + 0 ≤ _), (by decide : 20 + 0 ≤ _)⟩)
              dsimp only [Pt.U, Pt.locs, Pt.cells, Pt.slots] at X285 l285 y285 z285 st285 hQ285
              subst l285 y285 z285
              obtain ⟨rfl, N285q, e285⟩ := hQ285
              have N286 := Fr.app N284 N285q
              refine Go.via (S' := T285.setTop (mkF m 151 #[.val (.int p1), .val (.int p2), .val (.int p3), .val (.int p4), .val (.int p5), .val (.int p6), .val (.int N_), .val (.int (0 : Int32)), .val (.int (p3 ^^^ (-1 : Int32))), .val (.int (p4 ^^^ (-1 : Int32))), .val (.ref b1), .val (.int (own_at (0 : Int32) p3 p4 p5 p6 (p3 ^^^ (-1 : Int32)) (p4 ^^^ (-1 : Int32)))), .unset] [(.ref r18)])) (fun _ k => st285.trans k) ?_
              obtain ⟨T287, X287, e287, st287⟩ := castY X285 hx hZ hown (hw _ (List.mem_of_getElem? (i := 80) rfl)) e285 (Ins.self f171) (g := (mkF m 151 #[.val (.int p1), .val (.int p2), .val (.int p3), .val (.int p4), .val (.int p5), .val (.int p6), .val (.int N_), .val (.int (0 : Int32)), .val (.int (p3 ^^^ (-1 : Int32))), .val (.int (p4 ^^^ (-1 : Int32))), .val (.ref b1), .val (.int (own_at (0 : Int32) p3 p4 p5 p6 (p3 ^^^ (-1 : Int32)) (p4 ^^^ (-1 : Int32)))), .unset] [(.ref r18)])) rfl rfl (hb hby at_151)
              refine Go.via (S' := T287.setTop (mkF m 154 #[.val (.int p1), .val (.int p2), .val (.int p3), .val (.int p4), .val (.int p5), .val (.int p6), .val (.int N_), .val (.int (0 : Int32)), .val (.int (p3 ^^^ (-1 : Int32))), .val (.int (p4 ^^^ (-1 : Int32))), .val (.ref b1), .val (.int (own_at (0 : Int32) p3 p4 p5 p6 (p3 ^^^ (-1 : Int32)) (p4 ^^^ (-1 : Int32)))), .unset] [(.ref r18)])) (fun _ k => st287 _ k) ?_
              refine Go.via (S' := T287.setTop (mkF m 156 #[.val (.int p1), .val (.int p2), .val (.int p3), .val (.int p4), .val (.int p5), .val (.int p6), .val (.int N_), .val (.int (0 : Int32)), .val (.int (p3 ^^^ (-1 : Int32))), .val (.int (p4 ^^^ (-1 : Int32))), .val (.ref b1), .val (.int (own_at (0 : Int32) p3 p4 p5 p6 (p3 ^^^ (-1 : Int32)) (p4 ^^^ (-1 : Int32)))), .val (.ref r18)] [])) (fun _ k => XS.astore X287.here hx rfl (hb hby at_154) rfl rfl (l' := #[.val (.int p1), .val (.int p2), .val (.int p3), .val (.int p4), .val (.int p5), .val (.int p6), .val (.int N_), .val (.int (0 : Int32)), .val (.int (p3 ^^^ (-1 : Int32))), .val (.int (p4 ^^^ (-1 : Int32))), .val (.ref b1), .val (.int (own_at (0 : Int32) p3 p4 p5 p6 (p3 ^^^ (-1 : Int32)) (p4 ^^^ (-1 : Int32)))), .val (.ref r18)]) rfl k) ?_
              refine Go.via (S' := T287.setTop (mkF m 158 #[.val (.int p1), .val (.int p2), .val (.int p3), .val (.int p4), .val (.int p5), .val (.int p6), .val (.int N_), .val (.int (0 : Int32)), .val (.int (p3 ^^^ (-1 : Int32))), .val (.int (p4 ^^^ (-1 : Int32))), .val (.ref b1), .val (.int (own_at (0 : Int32) p3 p4 p5 p6 (p3 ^^^ (-1 : Int32)) (p4 ^^^ (-1 : Int32)))), .val (.ref r18)] [(.ref r18)])) (fun _ k => XS.aload X287.here hx rfl (hb hby at_156) rfl rfl k) ?_
              refine Go.via (S' := T287.setTop (mkF m 163 #[.val (.int p1), .val (.int p2), .val (.int p3), .val (.int p4), .val (.int p5), .val (.int p6), .val (.int N_), .val (.int (0 : Int32)), .val (.int (p3 ^^^ (-1 : Int32))), .val (.int (p4 ^^^ (-1 : Int32))), .val (.ref b1), .val (.int (own_at (0 : Int32) p3 p4 p5 p6 (p3 ^^^ (-1 : Int32)) (p4 ^^^ (-1 : Int32)))), .val (.ref r18)] [])) (fun _ k => XS.ifnonnullYes X287.here hx rfl (pc0 := 158) (pc' := 163) rfl (hb hby at_158) rfl (by decide) (by decide) k) ?_
              refine Go.via (S' := T287.setTop (mkF m 165 #[.val (.int p1), .val (.int p2), .val (.int p3), .val (.int p4), .val (.int p5), .val (.int p6), .val (.int N_), .val (.int (0 : Int32)), .val (.int (p3 ^^^ (-1 : Int32))), .val (.int (p4 ^^^ (-1 : Int32))), .val (.ref b1), .val (.int (own_at (0 : Int32) p3 p4 p5 p6 (p3 ^^^ (-1 : Int32)) (p4 ^^^ (-1 : Int32)))), .val (.ref r18)] [(.ref r18)])) (fun _ k => XS.aload X287.here hx rfl (hb hby at_163) rfl rfl k) ?_
              obtain ⟨cq288, kq288, q288a, q288b, q288c⟩ := isOf hZ e287 f171
              obtain ⟨_, _, ⟨T288, L288, k288, n288⟩, -, X288, ⟨Lc288, hQ288, l288, y288, z288⟩, st288⟩ := X287.virtualBack hx (y := (⟨"java/lang/Integer", "intValue", "()I"⟩ : MethodName)) (z := (⟨"java/lang/Integer", "intValue", "()I"⟩ : MethodName)) hown (mvT hZ (hw _ (List.mem_of_getElem? (i := 82) rfl))) (mvT hZ (hw _ (List.mem_of_getElem? (i := 83) rfl))) (notFace_of_selects (args := #[]) (mvT hZ (hw _ (List.mem_of_getElem? (i := 85) rfl)))) (mvT hZ (hw _ (List.mem_of_getElem? (i := 85) rfl))) (mvT hZ (hw _ (List.mem_of_getElem? (i := 84) rfl))) (by decide) (backOf (W := 0) (rm13 l Z a0 hw [] r18 p3 T165.heap n0 z183 f172) hZ (hw _ (List.mem_of_getElem? (i := 86) rfl)) (hw _ (List.mem_of_getElem? (i := 29) rfl)) (by decide) (by decide)) q288a q288c (g := (mkF m 165 #[.val (.int p1), .val (.int p2), .val (.int p3), .val (.int p4), .val (.int p5), .val (.int p6), .val (.int N_), .val (.int (0 : Int32)), .val (.int (p3 ^^^ (-1 : Int32))), .val (.int (p4 ^^^ (-1 : Int32))), .val (.ref b1), .val (.int (own_at (0 : Int32) p3 p4 p5 p6 (p3 ^^^ (-1 : Int32)) (p4 ^^^ (-1 : Int32)))), .val (.ref r18)] [(.ref r18)])) rfl (by rw [hml]; rfl) (Steps.refl _) (argsL := []) (rest := []) (lenOf pd_9 rfl) rfl (by show 2 * 0 + _ ≤ _; exact Nat.le_of_eq rfl) (hb hby at_165) (fun _ _ => ⟨rfl, e287, (by decide : 8 + 0 ≤ _), (by decide : 20 + 0 ≤ _)⟩)
              dsimp only [Pt.U, Pt.locs, Pt.cells, Pt.slots] at X288 l288 y288 z288 st288 hQ288
              subst l288 y288 z288
              obtain ⟨rfl, N288q, e288⟩ := hQ288
              have N289 := Fr.app N286 N288q
              refine Go.via (S' := T288.setTop (mkF m 168 #[.val (.int p1), .val (.int p2), .val (.int p3), .val (.int p4), .val (.int p5), .val (.int p6), .val (.int N_), .val (.int (0 : Int32)), .val (.int (p3 ^^^ (-1 : Int32))), .val (.int (p4 ^^^ (-1 : Int32))), .val (.ref b1), .val (.int (own_at (0 : Int32) p3 p4 p5 p6 (p3 ^^^ (-1 : Int32)) (p4 ^^^ (-1 : Int32)))), .val (.ref r18)] [(.int p3)])) (fun _ k => st288.trans k) ?_
              refine Go.via (S' := T288.setTop (mkF m 170 #[.val (.int p1), .val (.int p2), .val (.int p3), .val (.int p4), .val (.int p5), .val (.int p6), .val (.int N_), .val (.int (0 : Int32)), .val (.int (p3 ^^^ (-1 : Int32))), .val (.int (p4 ^^^ (-1 : Int32))), .val (.ref b1), .val (.int (own_at (0 : Int32) p3 p4 p5 p6 (p3 ^^^ (-1 : Int32)) (p4 ^^^ (-1 : Int32)))), .val (.ref r18)] [(.int (own_at (0 : Int32) p3 p4 p5 p6 (p3 ^^^ (-1 : Int32)) (p4 ^^^ (-1 : Int32)))), (.int p3)])) (fun _ k => XS.iload X288.here hx rfl (hb hby at_168) rfl k) ?_
              refine Go.via (S' := T288.setTop (mkF m 173 #[.val (.int p1), .val (.int p2), .val (.int p3), .val (.int p4), .val (.int p5), .val (.int p6), .val (.int N_), .val (.int (0 : Int32)), .val (.int (p3 ^^^ (-1 : Int32))), .val (.int (p4 ^^^ (-1 : Int32))), .val (.ref b1), .val (.int (own_at (0 : Int32) p3 p4 p5 p6 (p3 ^^^ (-1 : Int32)) (p4 ^^^ (-1 : Int32)))), .val (.ref r18)] [])) (fun _ k => XS.icmpNo X288.here hx rfl (hb hby at_170) rfl (teq (by simp [own_at])).2 k) ?_
              refine Go.via (S' := T288.setTop (mkF m 174 #[.val (.int p1), .val (.int p2), .val (.int p3), .val (.int p4), .val (.int p5), .val (.int p6), .val (.int N_), .val (.int (0 : Int32)), .val (.int (p3 ^^^ (-1 : Int32))), .val (.int (p4 ^^^ (-1 : Int32))), .val (.ref b1), .val (.int (own_at (0 : Int32) p3 p4 p5 p6 (p3 ^^^ (-1 : Int32)) (p4 ^^^ (-1 : Int32)))), .val (.ref r18)] [(.int (1 : Int32))])) (fun _ k => XS.iconst X288.here hx rfl (hb hby at_173) k) ?_
              refine Go.via (S' := T288.setTop (mkF m 178 #[.val (.int p1), .val (.int p2), .val (.int p3), .val (.int p4), .val (.int p5), .val (.int p6), .val (.int N_), .val (.int (0 : Int32)), .val (.int (p3 ^^^ (-1 : Int32))), .val (.int (p4 ^^^ (-1 : Int32))), .val (.ref b1), .val (.int (own_at (0 : Int32) p3 p4 p5 p6 (p3 ^^^ (-1 : Int32)) (p4 ^^^ (-1 : Int32)))), .val (.ref r18)] [(.int (1 : Int32))])) (fun _ k => XS.goto X288.here hx rfl (pc0 := 174) (pc' := 178) rfl (hb hby at_174) (by decide) (by decide) k) ?_
              exact Go.retB X288 hx (BodyLoose.notSynchronized Bd) Bd.returns (hb hby at_178) rfl (by rw [e288]; exact ⟨rfl, N289⟩) (by decide) (by decide)
            · obtain rfl : I_ = (1 : Int32) := Int32.toInt_inj.mp hi
              refine Go.via (S' := T165.setTop (mkF m 129 #[.val (.int p1), .val (.int p2), .val (.int p3), .val (.int p4), .val (.int p5), .val (.int p6), .val (.int N_), .val (.int (1 : Int32)), .val (.int (p3 ^^^ (-1 : Int32))), .val (.int (p4 ^^^ (-1 : Int32))), .val (.ref b1), .unset, .unset] [(.int (1 : Int32))])) (fun _ k => XS.iload X165.here hx rfl (hb hby at_127) rfl k) ?_
              refine Go.via (S' := T165.setTop (mkF m 130 #[.val (.int p1), .val (.int p2), .val (.int p3), .val (.int p4), .val (.int p5), .val (.int p6), .val (.int N_), .val (.int (1 : Int32)), .val (.int (p3 ^^^ (-1 : Int32))), .val (.int (p4 ^^^ (-1 : Int32))), .val (.ref b1), .unset, .unset] [(.int p3), (.int (1 : Int32))])) (fun _ k => XS.iloadN X165.here hx rfl (hb hby at_129) rfl k) ?_
              refine Go.via (S' := T165.setTop (mkF m 131 #[.val (.int p1), .val (.int p2), .val (.int p3), .val (.int p4), .val (.int p5), .val (.int p6), .val (.int N_), .val (.int (1 : Int32)), .val (.int (p3 ^^^ (-1 : Int32))), .val (.int (p4 ^^^ (-1 : Int32))), .val (.ref b1), .unset, .unset] [(.int p4), (.int p3), (.int (1 : Int32))])) (fun _ k => XS.iloadN X165.here hx rfl (hb hby at_130) rfl k) ?_
              refine Go.via (S' := T165.setTop (mkF m 133 #[.val (.int p1), .val (.int p2), .val (.int p3), .val (.int p4), .val (.int p5), .val (.int p6), .val (.int N_), .val (.int (1 : Int32)), .val (.int (p3 ^^^ (-1 : Int32))), .val (.int (p4 ^^^ (-1 : Int32))), .val (.ref b1), .unset, .unset] [(.int p5), (.int p4), (.int p3), (.int (1 : Int32))])) (fun _ k => XS.iload X165.here hx rfl (hb hby at_131) rfl k) ?_
              refine Go.via (S' := T165.setTop (mkF m 135 #[.val (.int p1), .val (.int p2), .val (.int p3), .val (.int p4), .val (.int p5), .val (.int p6), .val (.int N_), .val (.int (1 : Int32)), .val (.int (p3 ^^^ (-1 : Int32))), .val (.int (p4 ^^^ (-1 : Int32))), .val (.ref b1), .unset, .unset] [(.int p6), (.int p5), (.int p4), (.int p3), (.int (1 : Int32))])) (fun _ k => XS.iload X165.here hx rfl (hb hby at_133) rfl k) ?_
              refine Go.via (S' := T165.setTop (mkF m 137 #[.val (.int p1), .val (.int p2), .val (.int p3), .val (.int p4), .val (.int p5), .val (.int p6), .val (.int N_), .val (.int (1 : Int32)), .val (.int (p3 ^^^ (-1 : Int32))), .val (.int (p4 ^^^ (-1 : Int32))), .val (.ref b1), .unset, .unset] [(.int (p3 ^^^ (-1 : Int32))), (.int p6), (.int p5), (.int p4), (.int p3), (.int (1 : Int32))])) (fun _ k => XS.iload X165.here hx rfl (hb hby at_135) rfl k) ?_
              refine Go.via (S' := T165.setTop (mkF m 139 #[.val (.int p1), .val (.int p2), .val (.int p3), .val (.int p4), .val (.int p5), .val (.int p6), .val (.int N_), .val (.int (1 : Int32)), .val (.int (p3 ^^^ (-1 : Int32))), .val (.int (p4 ^^^ (-1 : Int32))), .val (.ref b1), .unset, .unset] [(.int (p4 ^^^ (-1 : Int32))), (.int (p3 ^^^ (-1 : Int32))), (.int p6), (.int p5), (.int p4), (.int p3), (.int (1 : Int32))])) (fun _ k => XS.iload X165.here hx rfl (hb hby at_137) rfl k) ?_
              obtain ⟨_, _, ⟨T290, L290, k290, n290⟩, -, X290, ⟨Lc290, hQ290, l290, y290, z290⟩, st290⟩ := Jvm.LawKit.callS X165 hx (y := (⟨"com/example/tidegraph/tidegraph/graph/ElementListGetPinLaw", "expectedAt", "(IIIIIII)I"⟩ : MethodName)) hown (mvT hZ (hw _ (List.mem_of_getElem? (i := 71) rfl))) (mvT hZ (hw _ (List.mem_of_getElem? (i := 72) rfl))) (mvT hZ (hw _ (List.mem_of_getElem? (i := 73) rfl))) (mvT hZ (hw _ (List.mem_of_getElem? (i := 74) rfl))) (by decide) (backOf (W := 0) (rm11 l Z a0 hw [] (1 : Int32) p3 p4 p5 p6 (p3 ^^^ (-1 : Int32)) (p4 ^^^ (-1 : Int32)) T165.heap n0 z183) hZ (hw _ (List.mem_of_getElem? (i := 74) rfl)) (hw _ (List.mem_of_getElem? (i := 73) rfl)) (by decide) (by decide)) (g := (mkF m 139 #[.val (.int p1), .val (.int p2), .val (.int p3), .val (.int p4), .val (.int p5), .val (.int p6), .val (.int N_), .val (.int (1 : Int32)), .val (.int (p3 ^^^ (-1 : Int32))), .val (.int (p4 ^^^ (-1 : Int32))), .val (.ref b1), .unset, .unset] [(.int (p4 ^^^ (-1 : Int32))), (.int (p3 ^^^ (-1 : Int32))), (.int p6), (.int p5), (.int p4), (.int p3), (.int (1 : Int32))])) rfl (by rw [hml]; rfl) (argsL := [(.int (1 : Int32)), (.int p3), (.int p4), (.int p5), (.int p6), (.int (p3 ^^^ (-1 : Int32))), (.int (p4 ^^^ (-1 : Int32)))]) (rest := []) (lenOf pd_7 rfl) rfl (by show 2 * 0 + _ ≤ _; exact Nat.le_of_eq rfl) (hb hby at_139) (fun _ _ => ⟨rfl, rfl, (by decide : 8 + 0 ≤ _), (by decide : 20 + 0 ≤ _)⟩)
              dsimp only [Pt.U, Pt.locs, Pt.cells, Pt.slots] at X290 l290 y290 z290 st290 hQ290
              subst l290 y290 z290
              obtain ⟨rfl, N290q, e290⟩ := hQ290
              have N291 := Fr.app N166 N290q
              refine Go.via (S' := T290.setTop (mkF m 142 #[.val (.int p1), .val (.int p2), .val (.int p3), .val (.int p4), .val (.int p5), .val (.int p6), .val (.int N_), .val (.int (1 : Int32)), .val (.int (p3 ^^^ (-1 : Int32))), .val (.int (p4 ^^^ (-1 : Int32))), .val (.ref b1), .unset, .unset] [(.int (own_at (1 : Int32) p3 p4 p5 p6 (p3 ^^^ (-1 : Int32)) (p4 ^^^ (-1 : Int32))))])) (fun _ k => st290 _ k) ?_
              refine Go.via (S' := T290.setTop (mkF m 144 #[.val (.int p1), .val (.int p2), .val (.int p3), .val (.int p4), .val (.int p5), .val (.int p6), .val (.int N_), .val (.int (1 : Int32)), .val (.int (p3 ^^^ (-1 : Int32))), .val (.int (p4 ^^^ (-1 : Int32))), .val (.ref b1), .val (.int (own_at (1 : Int32) p3 p4 p5 p6 (p3 ^^^ (-1 : Int32)) (p4 ^^^ (-1 : Int32)))), .unset] [])) (fun _ k => XS.istore X290.here hx rfl (hb hby at_142) rfl (l' := #[.val (.int p1), .val (.int p2), .val (.int p3), .val (.int p4), .val (.int p5), .val (.int p6), .val (.int N_), .val (.int (1 : Int32)), .val (.int (p3 ^^^ (-1 : Int32))), .val (.int (p4 ^^^ (-1 : Int32))), .val (.ref b1), .val (.int (own_at (1 : Int32) p3 p4 p5 p6 (p3 ^^^ (-1 : Int32)) (p4 ^^^ (-1 : Int32)))), .unset]) rfl k) ?_
              refine Go.via (S' := T290.setTop (mkF m 146 #[.val (.int p1), .val (.int p2), .val (.int p3), .val (.int p4), .val (.int p5), .val (.int p6), .val (.int N_), .val (.int (1 : Int32)), .val (.int (p3 ^^^ (-1 : Int32))), .val (.int (p4 ^^^ (-1 : Int32))), .val (.ref b1), .val (.int (own_at (1 : Int32) p3 p4 p5 p6 (p3 ^^^ (-1 : Int32)) (p4 ^^^ (-1 : Int32)))), .unset] [(.ref b1)])) (fun _ k => XS.aload X290.here hx rfl (hb hby at_144) rfl rfl k) ?_
              refine Go.via (S' := T290.setTop (mkF m 148 #[.val (.int p1), .val (.int p2), .val (.int p3), .val (.int p4), .val (.int p5), .val (.int p6), .val (.int N_), .val (.int (1 : Int32)), .val (.int (p3 ^^^ (-1 : Int32))), .val (.int (p4 ^^^ (-1 : Int32))), .val (.ref b1), .val (.int (own_at (1 : Int32) p3 p4 p5 p6 (p3 ^^^ (-1 : Int32)) (p4 ^^^ (-1 : Int32)))), .unset] [(.int (1 : Int32)), (.ref b1)])) (fun _ k => XS.iload X290.here hx rfl (hb hby at_146) rfl k) ?_
              obtain ⟨cq292, kq292, q292a, q292b, q292c⟩ := isOf hZ e290 f170
              obtain ⟨_, _, ⟨T292, L292, k292, n292⟩, -, X292, ⟨Lc292, hQ292, l292, y292, z292⟩, st292⟩ := X290.virtualBack hx (y := (⟨"com/example/tidegraph/tidegraph/graph/ElementList", "get", "(I)Ljava/lang/Object;"⟩ : MethodName)) (z := (⟨"com/example/tidegraph/tidegraph/graph/ElementList", "get", "(I)Ljava/lang/Object;"⟩ : MethodName)) hown (mvT hZ (hw _ (List.mem_of_getElem? (i := 75) rfl))) (mvT hZ (hw _ (List.mem_of_getElem? (i := 76) rfl))) (notFace_of_selects (args := #[]) (mvT hZ (hw _ (List.mem_of_getElem? (i := 78) rfl)))) (mvT hZ (hw _ (List.mem_of_getElem? (i := 78) rfl))) (mvT hZ (hw _ (List.mem_of_getElem? (i := 77) rfl))) (by decide) (backOf (W := 0) (rm12 l Z a0 hw [] b1 (1 : Int32) ar165 k2165 (8 : Int32) [(.ref r18), (.ref r43), (.ref r72), (.ref r105), (.ref r142), .null, .null, .null] (5 : Int32) r43 T165.heap n0 z183 Fe165 Fs165 Va165 (by decide) (by decide) rfl) hZ (hw _ (List.mem_of_getElem? (i := 79) rfl)) (hw _ (List.mem_of_getElem? (i := 3) rfl)) (by decide) (by decide)) q292a q292c (g := (mkF m 148 #[.val (.int p1), .val (.int p2), .val (.int p3), .val (.int p4), .val (.int p5), .val (.int p6), .val (.int N_), .val (.int (1 : Int32)), .val (.int (p3 ^^^ (-1 : Int32))), .val (.int (p4 ^^^ (-1 : Int32))), .val (.ref b1), .val (.int (own_at (1 : Int32) p3 p4 p5 p6 (p3 ^^^ (-1 : Int32)) (p4 ^^^ (-1 : Int32)))), .unset] [(.int (1 : Int32)), (.ref b1)])) rfl (by rw [hml]; rfl) (Steps.refl _) (argsL := [(.int (1 : Int32))]) (rest := []) (lenOf pd_8 rfl) rfl (by show 2 * 0 + _ ≤ _; exact Nat.le_of_eq rfl) (hb hby at_148) (fun _ _ => ⟨rfl, e290, (by decide : 8 + 0 ≤ _), (by decide : 20 + 0 ≤ _)⟩)
              dsimp only [Pt.U, Pt.locs, Pt.cells, Pt.slots] at X292 l292 y292 z292 st292 hQ292
              subst l292 y292 z292
              obtain ⟨rfl, N292q, e292⟩ := hQ292
              have N293 := Fr.app N291 N292q
              refine Go.via (S' := T292.setTop (mkF m 151 #[.val (.int p1), .val (.int p2), .val (.int p3), .val (.int p4), .val (.int p5), .val (.int p6), .val (.int N_), .val (.int (1 : Int32)), .val (.int (p3 ^^^ (-1 : Int32))), .val (.int (p4 ^^^ (-1 : Int32))), .val (.ref b1), .val (.int (own_at (1 : Int32) p3 p4 p5 p6 (p3 ^^^ (-1 : Int32)) (p4 ^^^ (-1 : Int32)))), .unset] [(.ref r43)])) (fun _ k => st292.trans k) ?_
              obtain ⟨T294, X294, e294, st294⟩ := castY X292 hx hZ hown (hw _ (List.mem_of_getElem? (i := 80) rfl)) e292 (Ins.self f174) (g := (mkF m 151 #[.val (.int p1), .val (.int p2), .val (.int p3), .val (.int p4), .val (.int p5), .val (.int p6), .val (.int N_), .val (.int (1 : Int32)), .val (.int (p3 ^^^ (-1 : Int32))), .val (.int (p4 ^^^ (-1 : Int32))), .val (.ref b1), .val (.int (own_at (1 : Int32) p3 p4 p5 p6 (p3 ^^^ (-1 : Int32)) (p4 ^^^ (-1 : Int32)))), .unset] [(.ref r43)])) rfl rfl (hb hby at_151)
              refine Go.via (S' := T294.setTop (mkF m 154 #[.val (.int p1), .val (.int p2), .val (.int p3), .val (.int p4), .val (.int p5), .val (.int p6), .val (.int N_), .val (.int (1 : Int32)), .val (.int (p3 ^^^ (-1 : Int32))), .val (.int (p4 ^^^ (-1 : Int32))), .val (.ref b1), .val (.int (own_at (1 : Int32) p3 p4 p5 p6 (p3 ^^^ (-1 : Int32)) (p4 ^^^ (-1 : Int32)))), .unset] [(.ref r43)])) (fun _ k => st294 _ k) ?_
              refine Go.via (S' := T294.setTop (mkF m 156 #[.val (.int p1), .val (.int p2), .val (.int p3), .val (.int p4), .val (.int p5), .val (.int p6), .val (.int N_), .val (.int (1 : Int32)), .val (.int (p3 ^^^ (-1 : Int32))), .val (.int (p4 ^^^ (-1 : Int32))), .val (.ref b1), .val (.int (own_at (1 : Int32) p3 p4 p5 p6 (p3 ^^^ (-1 : Int32)) (p4 ^^^ (-1 : Int32)))), .val (.ref r43)] [])) (fun _ k => XS.astore X294.here hx rfl (hb hby at_154) rfl rfl (l' := #[.val (.int p1), .val (.int p2), .val (.int p3), .val (.int p4), .val (.int p5), .val (.int p6), .val (.int N_), .val (.int (1 : Int32)), .val (.int (p3 ^^^ (-1 : Int32))), .val (.int (p4 ^^^ (-1 : Int32))), .val (.ref b1), .val (.int (own_at (1 : Int32) p3 p4 p5 p6 (p3 ^^^ (-1 : Int32)) (p4 ^^^ (-1 : Int32)))), .val (.ref r43)]) rfl k) ?_
              refine Go.via (S' := T294.setTop (mkF m 158 #[.val (.int p1), .val (.int p2), .val (.int p3), .val (.int p4), .val (.int p5), .val (.int p6), .val (.int N_), .val (.int (1 : Int32)), .val (.int (p3 ^^^ (-1 : Int32))), .val (.int (p4 ^^^ (-1 : Int32))), .val (.ref b1), .val (.int (own_at (1 : Int32) p3 p4 p5 p6 (p3 ^^^ (-1 : Int32)) (p4 ^^^ (-1 : Int32)))), .val (.ref r43)] [(.ref r43)])) (fun _ k => XS.aload X294.here hx rfl (hb hby at_156) rfl rfl k) ?_
              refine Go.via (S' := T294.setTop (mkF m 163 #[.val (.int p1), .val (.int p2), .val (.int p3), .val (.int p4), .val (.int p5), .val (.int p6), .val (.int N_), .val (.int (1 : Int32)), .val (.int (p3 ^^^ (-1 : Int32))), .val (.int (p4 ^^^ (-1 : Int32))), .val (.ref b1), .val (.int (own_at (1 : Int32) p3 p4 p5 p6 (p3 ^^^ (-1 : Int32)) (p4 ^^^ (-1 : Int32)))), .val (.ref r43)] [])) (fun _ k => XS.ifnonnullYes X294.here hx rfl (pc0 := 158) (pc' := 163) rfl (hb hby at_158) rfl (by decide) (by decide) k) ?_
              refine Go.via (S' := T294.setTop (mkF m 165 #[.val (.int p1), .val (.int p2), .val (.int p3), .val (.int p4), .val (.int p5), .val (.int p6), .val (.int N_), .val (.int (1 : Int32)), .val (.int (p3 ^^^ (-1 : Int32))), .val (.int (p4 ^^^ (-1 : Int32))), .val (.ref b1), .val (.int (own_at (1 : Int32) p3 p4 p5 p6 (p3 ^^^ (-1 : Int32)) (p4 ^^^ (-1 : Int32)))), .val (.ref r43)] [(.ref r43)])) (fun _ k => XS.aload X294.here hx rfl (hb hby at_163) rfl rfl k) ?_
              obtain ⟨cq295, kq295, q295a, q295b, q295c⟩ := isOf hZ e294 f174
              obtain ⟨_, _, ⟨T295, L295, k295, n295⟩, -, X295, ⟨Lc295, hQ295, l295, y295, z295⟩, st295⟩ := X294.virtualBack hx (y := (⟨"java/lang/Integer", "intValue", "()I"⟩ : MethodName)) (z := (⟨"java/lang/Integer", "intValue", "()I"⟩ : MethodName)) hown (mvT hZ (hw _ (List.mem_of_getElem? (i := 82) rfl))) (mvT hZ (hw _ (List.mem_of_getElem? (i := 83) rfl))) (notFace_of_selects (args := #[]) (mvT hZ (hw _ (List.mem_of_getElem? (i := 85) rfl)))) (mvT hZ (hw _ (List.mem_of_getElem? (i := 85) rfl))) (mvT hZ (hw _ (List.mem_of_getElem? (i := 84) rfl))) (by decide) (backOf (W := 0) (rm13 l Z a0 hw [] r43 p4 T165.heap n0 z183 f175) hZ (hw _ (List.mem_of_getElem? (i := 86) rfl)) (hw _ (List.mem_of_getElem? (i := 29) rfl)) (by decide) (by decide)) q295a q295c (g := (mkF m 165 #[.val (.int p1), .val (.int p2), .val (.int p3), .val (.int p4), .val (.int p5), .val (.int p6), .val (.int N_), .val (.int (1 : Int32)), .val (.int (p3 ^^^ (-1 : Int32))), .val (.int (p4 ^^^ (-1 : Int32))), .val (.ref b1), .val (.int (own_at (1 : Int32) p3 p4 p5 p6 (p3 ^^^ (-1 : Int32)) (p4 ^^^ (-1 : Int32)))), .val (.ref r43)] [(.ref r43)])) rfl (by rw [hml]; rfl) (Steps.refl _) (argsL := []) (rest := []) (lenOf pd_9 rfl) rfl (by show 2 * 0 + _ ≤ _; exact Nat.le_of_eq rfl) (hb hby at_165) (fun _ _ => ⟨rfl, e294, (by decide : 8 + 0 ≤ _), (by decide : 20 + 0 ≤ _)⟩)
              dsimp only [Pt.U, Pt.locs, Pt.cells, Pt.slots] at X295 l295 y295 z295 st295 hQ295
              subst l295 y295 z295
              obtain ⟨rfl, N295q, e295⟩ := hQ295
              have N296 := Fr.app N293 N295q
              refine Go.via (S' := T295.setTop (mkF m 168 #[.val (.int p1), .val (.int p2), .val (.int p3), .val (.int p4), .val (.int p5), .val (.int p6), .val (.int N_), .val (.int (1 : Int32)), .val (.int (p3 ^^^ (-1 : Int32))), .val (.int (p4 ^^^ (-1 : Int32))), .val (.ref b1), .val (.int (own_at (1 : Int32) p3 p4 p5 p6 (p3 ^^^ (-1 : Int32)) (p4 ^^^ (-1 : Int32)))), .val (.ref r43)] [(.int p4)])) (fun _ k => st295.trans k) ?_
              refine Go.via (S' := T295.setTop (mkF m 170 #[.val (.int p1), .val (.int p2), .val (.int p3), .val (.int p4), .val (.int p5), .val (.int p6), .val (.int N_), .val (.int (1 : Int32)), .val (.int (p3 ^^^ (-1 : Int32))), .val (.int (p4 ^^^ (-1 : Int32))), .val (.ref b1), .val (.int (own_at (1 : Int32) p3 p4 p5 p6 (p3 ^^^ (-1 : Int32)) (p4 ^^^ (-1 : Int32)))), .val (.ref r43)] [(.int (own_at (1 : Int32) p3 p4 p5 p6 (p3 ^^^ (-1 : Int32)) (p4 ^^^ (-1 : Int32)))), (.int p4)])) (fun _ k => XS.iload X295.here hx rfl (hb hby at_168) rfl k) ?_
              refine Go.via (S' := T295.setTop (mkF m 173 #[.val (.int p1), .val (.int p2), .val (.int p3), .val (.int p4), .val (.int p5), .val (.int p6), .val (.int N_), .val (.int (1 : Int32)), .val (.int (p3 ^^^ (-1 : Int32))), .val (.int (p4 ^^^ (-1 : Int32))), .val (.ref b1), .val (.int (own_at (1 : Int32) p3 p4 p5 p6 (p3 ^^^ (-1 : Int32)) (p4 ^^^ (-1 : Int32)))), .val (.ref r43)] [])) (fun _ k => XS.icmpNo X295.here hx rfl (hb hby at_170) rfl (teq (by simp [own_at])).2 k) ?_
              refine Go.via (S' := T295.setTop (mkF m 174 #[.val (.int p1), .val (.int p2), .val (.int p3), .val (.int p4), .val (.int p5), .val (.int p6), .val (.int N_), .val (.int (1 : Int32)), .val (.int (p3 ^^^ (-1 : Int32))), .val (.int (p4 ^^^ (-1 : Int32))), .val (.ref b1), .val (.int (own_at (1 : Int32) p3 p4 p5 p6 (p3 ^^^ (-1 : Int32)) (p4 ^^^ (-1 : Int32)))), .val (.ref r43)] [(.int (1 : Int32))])) (fun _ k => XS.iconst X295.here hx rfl (hb hby at_173) k) ?_
              refine Go.via (S' := T295.setTop (mkF m 178 #[.val (.int p1), .val (.int p2), .val (.int p3), .val (.int p4), .val (.int p5), .val (.int p6), .val (.int N_), .val (.int (1 : Int32)), .val (.int (p3 ^^^ (-1 : Int32))), .val (.int (p4 ^^^ (-1 : Int32))), .val (.ref b1), .val (.int (own_at (1 : Int32) p3 p4 p5 p6 (p3 ^^^ (-1 : Int32)) (p4 ^^^ (-1 : Int32)))), .val (.ref r43)] [(.int (1 : Int32))])) (fun _ k => XS.goto X295.here hx rfl (pc0 := 174) (pc' := 178) rfl (hb hby at_174) (by decide) (by decide) k) ?_
              exact Go.retB X295 hx (BodyLoose.notSynchronized Bd) Bd.returns (hb hby at_178) rfl (by rw [e295]; exact ⟨rfl, N296⟩) (by decide) (by decide)
            · obtain rfl : I_ = (2 : Int32) := Int32.toInt_inj.mp hi
              refine Go.via (S' := T165.setTop (mkF m 129 #[.val (.int p1), .val (.int p2), .val (.int p3), .val (.int p4), .val (.int p5), .val (.int p6), .val (.int N_), .val (.int (2 : Int32)), .val (.int (p3 ^^^ (-1 : Int32))), .val (.int (p4 ^^^ (-1 : Int32))), .val (.ref b1), .unset, .unset] [(.int (2 : Int32))])) (fun _ k => XS.iload X165.here hx rfl (hb hby at_127) rfl k) ?_
              refine Go.via (S' := T165.setTop (mkF m 130 #[.val (.int p1), .val (.int p2), .val (.int p3), .val (.int p4), .val (.int p5), .val (.int p6), .val (.int N_), .val (.int (2 : Int32)), .val (.int (p3 ^^^ (-1 : Int32))), .val (.int (p4 ^^^ (-1 : Int32))), .val (.ref b1), .unset, .unset] [(.int p3), (.int (2 : Int32))])) (fun _ k => XS.iloadN X165.here hx rfl (hb hby at_129) rfl k) ?_
              refine Go.via (S' := T165.setTop (mkF m 131 #[.val (.int p1), .val (.int p2), .val (.int p3), .val (.int p4), .val (.int p5), .val (.int p6), .val (.int N_), .val (.int (2 : Int32)), .val (.int (p3 ^^^ (-1 : Int32))), .val (.int (p4 ^^^ (-1 : Int32))), .val (.ref b1), .unset, .unset] [(.int p4), (.int p3), (.int (2 : Int32))])) (fun _ k => XS.iloadN X165.here hx rfl (hb hby at_130) rfl k) ?_
              refine Go.via (S' := T165.setTop (mkF m 133 #[.val (.int p1), .val (.int p2), .val (.int p3), .val (.int p4), .val (.int p5), .val (.int p6), .val (.int N_), .val (.int (2 : Int32)), .val (.int (p3 ^^^ (-1 : Int32))), .val (.int (p4 ^^^ (-1 : Int32))), .val (.ref b1), .unset, .unset] [(.int p5), (.int p4), (.int p3), (.int (2 : Int32))])) (fun _ k => XS.iload X165.here hx rfl (hb hby at_131) rfl k) ?_
              refine Go.via (S' := T165.setTop (mkF m 135 #[.val (.int p1), .val (.int p2), .val (.int p3), .val (.int p4), .val (.int p5), .val (.int p6), .val (.int N_), .val (.int (2 : Int32)), .val (.int (p3 ^^^ (-1 : Int32))), .val (.int (p4 ^^^ (-1 : Int32))), .val (.ref b1), .unset, .unset] [(.int p6), (.int p5), (.int p4), (.int p3), (.int (2 : Int32))])) (fun _ k => XS.iload X165.here hx rfl (hb hby at_133) rfl k) ?_
              refine Go.via (S' := T165.setTop (mkF m 137 #[.val (.int p1), .val (.int p2), .val (.int p3), .val (.int p4), .val (.int p5), .val (.int p6), .val (.int N_), .val (.int (2 : Int32)), .val (.int (p3 ^^^ (-1 : Int32))), .val (.int (p4 ^^^ (-1 : Int32))), .val (.ref b1), .unset, .unset] [(.int (p3 ^^^ (-1 : Int32))), (.int p6), (.int p5), (.int p4), (.int p3), (.int (2 : Int32))])) (fun _ k => XS.iload X165.here hx rfl (hb hby at_135) rfl k) ?_
              refine Go.via (S' := T165.setTop (mkF m 139 #[.val (.int p1), .val (.int p2), .val (.int p3), .val (.int p4), .val (.int p5), .val (.int p6), .val (.int N_), .val (.int (2 : Int32)), .val (.int (p3 ^^^ (-1 : Int32))), .val (.int (p4 ^^^ (-1 : Int32))), .val (.ref b1), .unset, .unset] [(.int (p4 ^^^ (-1 : Int32))), (.int (p3 ^^^ (-1 : Int32))), (.int p6), (.int p5), (.int p4), (.int p3), (.int (2 : Int32))])) (fun _ k => XS.iload X165.here hx rfl (hb hby at_137) rfl k) ?_
              obtain ⟨_, _, ⟨T297, L297, k297, n297⟩, -, X297, ⟨Lc297, hQ297, l297, y297, z297⟩, st297⟩ := Jvm.LawKit.callS X165 hx (y := (⟨"com/example/tidegraph/tidegraph/graph/ElementListGetPinLaw", "expectedAt", "(IIIIIII)I"⟩ : MethodName)) hown (mvT hZ (hw _ (List.mem_of_getElem? (i := 71) rfl))) (mvT hZ (hw _ (List.mem_of_getElem? (i := 72) rfl))) (mvT hZ (hw _ (List.mem_of_getElem? (i := 73) rfl))) (mvT hZ (hw _ (List.mem_of_getElem? (i := 74) rfl))) (by decide) (backOf (W := 0) (rm11 l Z a0 hw [] (2 : Int32) p3 p4 p5 p6 (p3 ^^^ (-1 : Int32)) (p4 ^^^ (-1 : Int32)) T165.heap n0 z183) hZ (hw _ (List.mem_of_getElem? (i := 74) rfl)) (hw _ (List.mem_of_getElem? (i := 73) rfl)) (by decide) (by decide)) (g := (mkF m 139 #[.val (.int p1), .val (.int p2), .val (.int p3), .val (.int p4), .val (.int p5), .val (.int p6), .val (.int N_), .val (.int (2 : Int32)), .val (.int (p3 ^^^ (-1 : Int32))), .val (.int (p4 ^^^ (-1 : Int32))), .val (.ref b1), .unset, .unset] [(.int (p4 ^^^ (-1 : Int32))), (.int (p3 ^^^ (-1 : Int32))), (.int p6), (.int p5), (.int p4), (.int p3), (.int (2 : Int32))])) rfl (by rw [hml]; rfl) (argsL := [(.int (2 : Int32)), (.int p3), (.int p4), (.int p5), (.int p6), (.int (p3 ^^^ (-1 : Int32))), (.int (p4 ^^^ (-1 : Int32)))]) (rest := []) (lenOf pd_7 rfl) rfl (by show 2 * 0 + _ ≤ _; exact Nat.le_of_eq rfl) (hb hby at_139) (fun _ _ => ⟨rfl, rfl, (by decide : 8 + 0 ≤ _), (by decide : 20 + 0 ≤ _)⟩)
              dsimp only [Pt.U, Pt.locs, Pt.cells, Pt.slots] at X297 l297 y297 z297 st297 hQ297
              subst l297 y297 z297
              obtain ⟨rfl, N297q, e297⟩ := hQ297
              have N298 := Fr.app N166 N297q
              refine Go.via (S' := T297.setTop (mkF m 142 #[.val (.int p1), .val (.int p2), .val (.int p3), .val (.int p4), .val (.int p5), .val (.int p6), .val (.int N_), .val (.int (2 : Int32)), .val (.int (p3 ^^^ (-1 : Int32))), .val (.int (p4 ^^^ (-1 : Int32))), .val (.ref b1), .unset, .unset] [(.int (own_at (2 : Int32) p3 p4 p5 p6 (p3 ^^^ (-1 : Int32)) (p4 ^^^ (-1 : Int32))))])) (fun _ k => st297 _ k) ?_
              refine Go.via (S' := T297.setTop (mkF m 144 #[.val (.int p1), .val (.int p2), .val (.int p3), .val (.int p4), .val (.int p5), .val (.int p6), .val (.int N_), .val (.int (2 : Int32)), .val (.int (p3 ^^^ (-1 : Int32))), .val (.int (p4 ^^^ (-1 : Int32))), .val (.ref b1), .val (.int (own_at (2 : Int32) p3 p4 p5 p6 (p3 ^^^ (-1 : Int32)) (p4 ^^^ (-1 : Int32)))), .unset] [])) (fun _ k => XS.istore X297.here hx rfl (hb hby at_142) rfl (l' := #[.val (.int p1), .val (.int p2), .val (.int p3), .val (.int p4), .val (.int p5), .val (.int p6), .val (.int N_), .val (.int (2 : Int32)), .val (.int (p3 ^^^ (-1 : Int32))), .val (.int (p4 ^^^ (-1 : Int32))), .val (.ref b1), .val (.int (own_at (2 : Int32) p3 p4 p5 p6 (p3 ^^^ (-1 : Int32)) (p4 ^^^ (-1 : Int32)))), .unset]) rfl k) ?_
              refine Go.via (S' := T297.setTop (mkF m 146 #[.val (.int p1), .val (.int p2), .val (.int p3), .val (.int p4), .val (.int p5), .val (.int p6), .val (.int N_), .val (.int (2 : Int32)), .val (.int (p3 ^^^ (-1 : Int32))), .val (.int (p4 ^^^ (-1 : Int32))), .val (.ref b1), .val (.int (own_at (2 : Int32) p3 p4 p5 p6 (p3 ^^^ (-1 : Int32)) (p4 ^^^ (-1 : Int32)))), .unset] [(.ref b1)])) (fun _ k => XS.aload X297.here hx rfl (hb hby at_144) rfl rfl k) ?_
              refine Go.via (S' := T297.setTop (mkF m 148 #[.val (.int p1), .val (.int p2), .val (.int p3), .val (.int p4), .val (.int p5), .val (.int p6), .val (.int N_), .val (.int (2 : Int32)), .val (.int (p3 ^^^ (-1 : Int32))), .val (.int (p4 ^^^ (-1 : Int32))), .val (.ref b1), .val (.int (own_at (2 : Int32) p3 p4 p5 p6 (p3 ^^^ (-1 : Int32)) (p4 ^^^ (-1 : Int32)))), .unset] [(.int (2 : Int32)), (.ref b1)])) (fun _ k => XS.iload X297.here hx rfl (hb hby at_146) rfl k) ?_
              obtain ⟨cq299, kq299, q299a, q299b, q299c⟩ := isOf hZ e297 f170
              obtain ⟨_, _, ⟨T299, L299, k299, n299⟩, -, X299, ⟨Lc299, hQ299, l299, y299, z299⟩, st299⟩ := X297.virtualBack hx (y := (⟨"com/example/tidegraph/tidegraph/graph/ElementList", "get", "(I)Ljava/lang/Object;"⟩ : MethodName)) (z := (⟨"com/example/tidegraph/tidegraph/graph/ElementList", "get", "(I)Ljava/lang/Object;"⟩ : MethodName)) hown (mvT hZ (hw _ (List.mem_of_getElem? (i := 75) rfl))) (mvT hZ (hw _ (List.mem_of_getElem? (i := 76) rfl))) (notFace_of_selects (args := #[]) (mvT hZ (hw _ (List.mem_of_getElem? (i := 78) rfl)))) (mvT hZ (hw _ (List.mem_of_getElem? (i := 78) rfl))) (mvT hZ (hw _ (List.mem_of_getElem? (i := 77) rfl))) (by decide) (backOf (W := 0) (rm12 l Z a0 hw [] b1 (2 : Int32) ar165 k2165 (8 : Int32) [(.ref r18), (.ref r43), (.ref r72), (.ref r105), (.ref r142), .null, .null, .null] (5 : Int32) r72 T165.heap n0 z183 Fe165 Fs165 Va165 (by decide) (by decide) rfl) hZ (hw _ (List.mem_of_getElem? (i := 79) rfl)) (hw _ (List.mem_of_getElem? (i := 3) rfl)) (by decide) (by decide)) q299a q299c (g := (mkF m 148 #[.val (.int p1), .val (.int p2), .val (.int p3), .val (.int p4), .val (.int p5), .val (.int p6), .val (.int N_), .val (.int (2 : Int32)), .val (.int (p3 ^^^ (-1 : Int32))), .val (.int (p4 ^^^ (-1 : Int32))), .val (.ref b1), .val (.int (own_at (2 : Int32) p3 p4 p5 p6 (p3 ^^^ (-1 : Int32)) (p4 ^^^ (-1 : Int32)))), .unset] [(.int (2 : Int32)), (.ref b1)])) rfl (by rw [hml]; rfl) (Steps.refl _) (argsL := [(.int (2 : Int32))]) (rest := []) (lenOf pd_8 rfl) rfl (by show 2 * 0 + _ ≤ _; exact Nat.le_of_eq rfl) (hb hby at_148) (fun _ _ => ⟨rfl, e297, (by decide : 8 + 0 ≤ _), (by decide : 20 + 0 ≤ _)⟩)
              dsimp only [Pt.U, Pt.locs, Pt.cells, Pt.slots] at X299 l299 y299 z299 st299 hQ299
              subst l299 y299 z299
              obtain ⟨rfl, N299q, e299⟩ := hQ299
              have N300 := Fr.app N298 N299q
              refine Go.via (S' := T299.setTop (mkF m 151 #[.val (.int p1), .val (.int p2), .val (.int p3), .val (.int p4), .val (.int p5), .val (.int p6), .val (.int N_), .val (.int (2 : Int32)), .val (.int (p3 ^^^ (-1 : Int32))), .val (.int (p4 ^^^ (-1 : Int32))), .val (.ref b1), .val (.int (own_at (2 : Int32) p3 p4 p5 p6 (p3 ^^^ (-1 : Int32)) (p4 ^^^ (-1 : Int32)))), .unset] [(.ref r72)])) (fun _ k => st299.trans k) ?_
              obtain ⟨T301, X301, e301, st301⟩ := castY X299 hx hZ hown (hw _ (List.mem_of_getElem? (i := 80) rfl)) e299 (Ins.self f176) (g := (mkF m 151 #[.val (.int p1), .val (.int p2), .val (.int p3), .val (.int p4), .val (.int p5), .val (.int p6), .val (.int N_), .val (.int (2 : Int32)), .val (.int (p3 ^^^ (-1 : Int32))), .val (.int (p4 ^^^ (-1 : Int32))), .val (.ref b1), .val (.int (own_at (2 : Int32) p3 p4 p5 p6 (p3 ^^^ (-1 : Int32)) (p4 ^^^ (-1 : Int32)))), .unset] [(.ref r72)])) rfl rfl (hb hby at_151)
              refine Go.via (S' := T301.setTop (mkF m 154 #[.val (.int p1), .val (.int p2), .val (.int p3), .val (.int p4), .val (.int p5), .val (.int p6), .val (.int N_), .val (.int (2 : Int32)), .val (.int (p3 ^^^ (-1 : Int32))), .val (.int (p4 ^^^ (-1 : Int32))), .val (.ref b1), .val (.int (own_at (2 : Int32) p3 p4 p5 p6 (p3 ^^^ (-1 : Int32)) (p4 ^^^ (-1 : Int32)))), .unset] [(.ref r72)])) (fun _ k => st301 _ k) ?_
              refine Go.via (S' := T301.setTop (mkF m 156 #[.val (.int p1), .val (.int p2), .val (.int p3), .val (.int p4), .val (.int p5), .val (.int p6), .val (.int N_), .val (.int (2 : Int32)), .val (.int (p3 ^^^ (-1 : Int32))), .val (.int (p4 ^^^ (-1 : Int32))), .val (.ref b1), .val (.int (own_at (2 : Int32) p3 p4 p5 p6 (p3 ^^^ (-1 : Int32)) (p4 ^^^ (-1 : Int32)))), .val (.ref r72)] [])) (fun _ k => XS.astore X301.here hx rfl (hb hby at_154) rfl rfl (l' := #[.val (.int p1), .val (.int p2), .val (.int p3), .val (.int p4), .val (.int p5), .val (.int p6), .val (.int N_), .val (.int (2 : Int32)), .val (.int (p3 ^^^ (-1 : Int32))), .val (.int (p4 ^^^ (-1 : Int32))), .val (.ref b1), .val (.int (own_at (2 : Int32) p3 p4 p5 p6 (p3 ^^^ (-1 : Int32)) (p4 ^^^ (-1 : Int32)))), .val (.ref r72)]) rfl k) ?_
              refine Go.via (S' := T301.setTop (mkF m 158 #[.val (.int p1), .val (.int p2), .val (.int p3), .val (.int p4), .val (.int p5), .val (.int p6), .val (.int N_), .val (.int (2 : Int32)), .val (.int (p3 ^^^ (-1 : Int32))), .val (.int (p4 ^^^ (-1 : Int32))), .val (.ref b1), .val (.int (own_at (2 : Int32) p3 p4 p5 p6 (p3 ^^^ (-1 : Int32)) (p4 ^^^ (-1 : Int32)))), .val (.ref r72)] [(.ref r72)])) (fun _ k => XS.aload X301.here hx rfl (hb hby at_156) rfl rfl k) ?_
              refine Go.via (S' := T301.setTop (mkF m 163 #[.val (.int p1), .val (.int p2), .val (.int p3), .val (.int p4), .val (.int p5), .val (.int p6), .val (.int N_), .val (.int (2 : Int32)), .val (.int (p3 ^^^ (-1 : Int32))), .val (.int (p4 ^^^ (-1 : Int32))), .val (.ref b1), .val (.int (own_at (2 : Int32) p3 p4 p5 p6 (p3 ^^^ (-1 : Int32)) (p4 ^^^ (-1 : Int32)))), .val (.ref r72)] [])) (fun _ k => XS.ifnonnullYes X301.here hx rfl (pc0 := 158) (pc' := 163) rfl (hb hby at_158) rfl (by decide) (by decide) k) ?_
              refine Go.via (S' := T301.setTop (mkF m 165 #[.val (.int p1), .val (.int p2), .val (.int p3), .val (.int p4), .val (.int p5), .val (.int p6), .val (.int N_), .val (.int (2 : Int32)), .val (.int (p3 ^^^ (-1 : Int32))), .val (.int (p4 ^^^ (-1 : Int32))), .val (.ref b1), .val (.int (own_at (2 : Int32) p3 p4 p5 p6 (p3 ^^^ (-1 : Int32)) (p4 ^^^ (-1 : Int32)))), .val (.ref r72)] [(.ref r72)])) (fun _ k => XS.aload X301.here hx rfl (hb hby at_163) rfl rfl k) ?_
              obtain ⟨cq302, kq302, q302a, q302b, q302c⟩ := isOf hZ e301 f176
              obtain ⟨_, _, ⟨T302, L302, k302, n302⟩, -, X302, ⟨Lc302, hQ302, l302, y302, z302⟩, st302⟩ := X301.virtualBack hx (y := (⟨"java/lang/Integer", "intValue", "()I"⟩ : MethodName)) (z := (⟨"java/lang/Integer", "intValue", "()I"⟩ : MethodName)) hown (mvT hZ (hw _ (List.mem_of_getElem? (i := 82) rfl))) (mvT hZ (hw _ (List.mem_of_getElem? (i := 83) rfl))) (notFace_of_selects (args := #[]) (mvT hZ (hw _ (List.mem_of_getElem? (i := 85) rfl)))) (mvT hZ (hw _ (List.mem_of_getElem? (i := 85) rfl))) (mvT hZ (hw _ (List.mem_of_getElem? (i := 84) rfl))) (by decide) (backOf (W := 0) (rm13 l Z a0 hw [] r72 p5 T165.heap n0 z183 f177) hZ (hw _ (List.mem_of_getElem? (i := 86) rfl)) (hw _ (List.mem_of_getElem? (i := 29) rfl)) (by decide) (by decide)) q302a q302c (g := (mkF m 165 #[.val (.int p1), .val (.int p2), .val (.int p3), .val (.int p4), .val (.int p5), .val (.int p6), .val (.int N_), .val (.int (2 : Int32)), .val (.int (p3 ^^^ (-1 : Int32))), .val (.int (p4 ^^^ (-1 : Int32))), .val (.ref b1), .val (.int (own_at (2 : Int32) p3 p4 p5 p6 (p3 ^^^ (-1 : Int32)) (p4 ^^^ (-1 : Int32)))), .val (.ref r72)] [(.ref r72)])) rfl (by rw [hml]; rfl) (Steps.refl _) (argsL := []) (rest := []) (lenOf pd_9 rfl) rfl (by show 2 * 0 + _ ≤ _; exact Nat.le_of_eq rfl) (hb hby at_165) (fun _ _ => ⟨rfl, e301, (by decide : 8 + 0 ≤ _), (by decide : 20 + 0 ≤ _)⟩)
              dsimp only [Pt.U, Pt.locs, Pt.cells, Pt.slots] at X302 l302 y302 z302 st302 hQ302
              subst l302 y302 z302
              obtain ⟨rfl, N302q, e302⟩ := hQ302
              have N303 := Fr.app N300 N302q
              refine Go.via (S' := T302.setTop (mkF m 168 #[.val (.int p1), .val (.int p2), .val (.int p3), .val (.int p4), .val (.int p5), .val (.int p6), .val (.int N_), .val (.int (2 : Int32)), .val (.int (p3 ^^^ (-1 : Int32))), .val (.int (p4 ^^^ (-1 : Int32))), .val (.ref b1), .val (.int (own_at (2 : Int32) p3 p4 p5 p6 (p3 ^^^ (-1 : Int32)) (p4 ^^^ (-1 : Int32)))), .val (.ref r72)] [(.int p5)])) (fun _ k => st302.trans k) ?_
              refine Go.via (S' := T302.setTop (mkF m 170 #[.val (.int p1), .val (.int p2), .val (.int p3), .val (.int p4), .val (.int p5), .val (.int p6), .val (.int N_), .val (.int (2 : Int32)), .val (.int (p3 ^^^ (-1 : Int32))), .val (.int (p4 ^^^ (-1 : Int32))), .val (.ref b1), .val (.int (own_at (2 : Int32) p3 p4 p5 p6 (p3 ^^^ (-1 : Int32)) (p4 ^^^ (-1 : Int32)))), .val (.ref r72)] [(.int (own_at (2 : Int32) p3 p4 p5 p6 (p3 ^^^ (-1 : Int32)) (p4 ^^^ (-1 : Int32)))), (.int p5)])) (fun _ k => XS.iload X302.here hx rfl (hb hby at_168) rfl k) ?_
              refine Go.via (S' := T302.setTop (mkF m 173 #[.val (.int p1), .val (.int p2), .val (.int p3), .val (.int p4), .val (.int p5), .val (.int p6), .val (.int N_), .val (.int (2 : Int32)), .val (.int (p3 ^^^ (-1 : Int32))), .val (.int (p4 ^^^ (-1 : Int32))), .val (.ref b1), .val (.int (own_at (2 : Int32) p3 p4 p5 p6 (p3 ^^^ (-1 : Int32)) (p4 ^^^ (-1 : Int32)))), .val (.ref r72)] [])) (fun _ k => XS.icmpNo X302.here hx rfl (hb hby at_170) rfl (teq (by simp [own_at])).2 k) ?_
              refine Go.via (S' := T302.setTop (mkF m 174 #[.val (.int p1), .val (.int p2), .val (.int p3), .val (.int p4), .val (.int p5), .val (.int p6), .val (.int N_), .val (.int (2 : Int32)), .val (.int (p3 ^^^ (-1 : Int32))), .val (.int (p4 ^^^ (-1 : Int32))), .val (.ref b1), .val (.int (own_at (2 : Int32) p3 p4 p5 p6 (p3 ^^^ (-1 : Int32)) (p4 ^^^ (-1 : Int32)))), .val (.ref r72)] [(.int (1 : Int32))])) (fun _ k => XS.iconst X302.here hx rfl (hb hby at_173) k) ?_
              refine Go.via (S' := T302.setTop (mkF m 178 #[.val (.int p1), .val (.int p2), .val (.int p3), .val (.int p4), .val (.int p5), .val (.int p6), .val (.int N_), .val (.int (2 : Int32)), .val (.int (p3 ^^^ (-1 : Int32))), .val (.int (p4 ^^^ (-1 : Int32))), .val (.ref b1), .val (.int (own_at (2 : Int32) p3 p4 p5 p6 (p3 ^^^ (-1 : Int32)) (p4 ^^^ (-1 : Int32)))), .val (.ref r72)] [(.int (1 : Int32))])) (fun _ k => XS.goto X302.here hx rfl (pc0 := 174) (pc' := 178) rfl (hb hby at_174) (by decide) (by decide) k) ?_
              exact Go.retB X302 hx (BodyLoose.notSynchronized Bd) Bd.returns (hb hby at_178) rfl (by rw [e302]; exact ⟨rfl, N303⟩) (by decide) (by decide)
            · obtain rfl : I_ = (3 : Int32) := Int32.toInt_inj.mp hi
              refine Go.via (S' := T165.setTop (mkF m 129 #[.val (.int p1), .val (.int p2), .val (.int p3), .val (.int p4), .val (.int p5), .val (.int p6), .val (.int N_), .val (.int (3 : Int32)), .val (.int (p3 ^^^ (-1 : Int32))), .val (.int (p4 ^^^ (-1 : Int32))), .val (.ref b1), .unset, .unset] [(.int (3 : Int32))])) (fun _ k => XS.iload X165.here hx rfl (hb hby at_127) rfl k) ?_
              refine Go.via (S' := T165.setTop (mkF m 130 #[.val (.int p1), .val (.int p2), .val (.int p3), .val (.int p4), .val (.int p5), .val (.int p6), .val (.int N_), .val (.int (3 : Int32)), .val (.int (p3 ^^^ (-1 : Int32))), .val (.int (p4 ^^^ (-1 : Int32))), .val (.ref b1), .unset, .unset] [(.int p3), (.int (3 : Int32))])) (fun _ k => XS.iloadN X165.here hx rfl (hb hby at_129) rfl k) ?_
              refine Go.via (S' := T165.setTop (mkF m 131 #[.val (.int p1), .val (.int p2), .val (.int p3), .val (.int p4), .val (.int p5), .val (.int p6), .val (.int N_), .val (.int (3 : Int32)), .val (.int (p3 ^^^ (-1 : Int32))), .val (.int (p4 ^^^ (-1 : Int32))), .val (.ref b1), .unset, .unset] [(.int p4), (.int p3), (.int (3 : Int32))])) (fun _ k => XS.iloadN X165.here hx rfl (hb hby at_130) rfl k) ?_
              refine Go.via (S' := T165.setTop (mkF m 133 #[.val (.int p1), .val (.int p2), .val (.int p3), .val (.int p4), .val (.int p5), .val (.int p6), .val (.int N_), .val (.int (3 : Int32)), .val (.int (p3 ^^^ (-1 : Int32))), .val (.int (p4 ^^^ (-1 : Int32))), .val (.ref b1), .unset, .unset] [(.int p5), (.int p4), (.int p3), (.int (3 : Int32))])) (fun _ k => XS.iload X165.here hx rfl (hb hby at_131) rfl k) ?_
              refine Go.via (S' := T165.setTop (mkF m 135 #[.val (.int p1), .val (.int p2), .val (.int p3), .val (.int p4), .val (.int p5), .val (.int p6), .val (.int N_), .val (.int (3 : Int32)), .val (.int (p3 ^^^ (-1 : Int32))), .val (.int (p4 ^^^ (-1 : Int32))), .val (.ref b1), .unset, .unset] [(.int p6), (.int p5), (.int p4), (.int p3), (.int (3 : Int32))])) (fun _ k => XS.iload X165.here hx rfl (hb hby at_133) rfl k) ?_
              refine Go.via (S' := T165.setTop (mkF m 137 #[.val (.int p1), .val (.int p2), .val (.int p3), .val (.int p4), .val (.int p5), .val (.int p6), .val (.int N_), .val (.int (3 : Int32)), .val (.int (p3 ^^^ (-1 : Int32))), .val (.int (p4 ^^^ (-1 : Int32))), .val (.ref b1), .unset, .unset] [(.int (p3 ^^^ (-1 : Int32))), (.int p6), (.int p5), (.int p4), (.int p3), (.int (3 : Int32))])) (fun _ k => XS.iload X165.here hx rfl (hb hby at_135) rfl k) ?_
              refine Go.via (S' := T165.setTop (mkF m 139 #[.val (.int p1), .val (.int p2), .val (.int p3), .val (.int p4), .val (.int p5), .val (.int p6), .val (.int N_), .val (.int (3 : Int32)), .val (.int (p3 ^^^ (-1 : Int32))), .val (.int (p4 ^^^ (-1 : Int32))), .val (.ref b1), .unset, .unset] [(.int (p4 ^^^ (-1 : Int32))), (.int (p3 ^^^ (-1 : Int32))), (.int p6), (.int p5), (.int p4), (.int p3), (.int (3 : Int32))])) (fun _ k => XS.iload X165.here hx rfl (hb hby at_137) rfl k) ?_
              obtain ⟨_, _, ⟨T304, L304, k304, n304⟩, -, X304, ⟨Lc304, hQ304, l304, y304, z304⟩, st304⟩ := Jvm.LawKit.callS X165 hx (y := (⟨"com/example/tidegraph/tidegraph/graph/ElementListGetPinLaw", "expectedAt", "(IIIIIII)I"⟩ : MethodName)) hown (mvT hZ (hw _ (List.mem_of_getElem? (i := 71) rfl))) (mvT hZ (hw _ (List.mem_of_getElem? (i := 72) rfl))) (mvT hZ (hw _ (List.mem_of_getElem? (i := 73) rfl))) (mvT hZ (hw _ (List.mem_of_getElem? (i := 74) rfl))) (by decide) (backOf (W := 0) (rm11 l Z a0 hw [] (3 : Int32) p3 p4 p5 p6 (p3 ^^^ (-1 : Int32)) (p4 ^^^ (-1 : Int32)) T165.heap n0 z183) hZ (hw _ (List.mem_of_getElem? (i := 74) rfl)) (hw _ (List.mem_of_getElem? (i := 73) rfl)) (by decide) (by decide)) (g := (mkF m 139 #[.val (.int p1), .val (.int p2), .val (.int p3), .val (.int p4), .val (.int p5), .val (.int p6), .val (.int N_), .val (.int (3 : Int32)), .val (.int (p3 ^^^ (-1 : Int32))), .val (.int (p4 ^^^ (-1 : Int32))), .val (.ref b1), .unset, .unset] [(.int (p4 ^^^ (-1 : Int32))), (.int (p3 ^^^ (-1 : Int32))), (.int p6), (.int p5), (.int p4), (.int p3), (.int (3 : Int32))])) rfl (by rw [hml]; rfl) (argsL := [(.int (3 : Int32)), (.int p3), (.int p4), (.int p5), (.int p6), (.int (p3 ^^^ (-1 : Int32))), (.int (p4 ^^^ (-1 : Int32)))]) (rest := []) (lenOf pd_7 rfl) rfl (by show 2 * 0 + _ ≤ _; exact Nat.le_of_eq rfl) (hb hby at_139) (fun _ _ => ⟨rfl, rfl, (by decide : 8 + 0 ≤ _), (by decide : 20 + 0 ≤ _)⟩)
              dsimp only [Pt.U, Pt.locs, Pt.cells, Pt.slots] at X304 l304 y304 z304 st304 hQ304
              subst l304 y304 z304
              obtain ⟨rfl, N304q, e304⟩ := hQ304
              have N305 := Fr.app N166 N304q
              refine Go.via (S' := T304.setTop (mkF m 142 #[.val (.int p1), .val (.int p2), .val (.int p3), .val (.int p4), .val (.int p5), .val (.int p6), .val (.int N_), .val (.int (3 : Int32)), .val (.int (p3 ^^^ (-1 : Int32))), .val (.int (p4 ^^^ (-1 : Int32))), .val (.ref b1), .unset, .unset] [(.int (own_at (3 : Int32) p3 p4 p5 p6 (p3 ^^^ (-1 : Int32)) (p4 ^^^ (-1 : Int32))))])) (fun _ k => st304 _ k) ?_
              refine Go.via (S' := T304.setTop (mkF m 144 #[.val (.int p1), .val (.int p2), .val (.int p3), .val (.int p4), .val (.int p5), .val (.int p6), .val (.int N_), .val (.int (3 : Int32)), .val (.int (p3 ^^^ (-1 : Int32))), .val (.int (p4 ^^^ (-1 : Int32))), .val (.ref b1), .val (.int (own_at (3 : Int32) p3 p4 p5 p6 (p3 ^^^ (-1 : Int32)) (p4 ^^^ (-1 : Int32)))), .unset] [])) (fun _ k => XS.istore X304.here hx rfl (hb hby at_142) rfl (l' := #[.val (.int p1), .val (.int p2), .val (.int p3), .val (.int p4), .val (.int p5), .val (.int p6), .val (.int N_), .val (.int (3 : Int32)), .val (.int (p3 ^^^ (-1 : Int32))), .val (.int (p4 ^^^ (-1 : Int32))), .val (.ref b1), .val (.int (own_at (3 : Int32) p3 p4 p5 p6 (p3 ^^^ (-1 : Int32)) (p4 ^^^ (-1 : Int32)))), .unset]) rfl k) ?_
              refine Go.via (S' := T304.setTop (mkF m 146 #[.val (.int p1), .val (.int p2), .val (.int p3), .val (.int p4), .val (.int p5), .val (.int p6), .val (.int N_), .val (.int (3 : Int32)), .val (.int (p3 ^^^ (-1 : Int32))), .val (.int (p4 ^^^ (-1 : Int32))), .val (.ref b1), .val (.int (own_at (3 : Int32) p3 p4 p5 p6 (p3 ^^^ (-1 : Int32)) (p4 ^^^ (-1 : Int32)))), .unset] [(.ref b1)])) (fun _ k => XS.aload X304.here hx rfl (hb hby at_144) rfl rfl k) ?_
              refine Go.via (S' := T304.setTop (mkF m 148 #[.val (.int p1), .val (.int p2), .val (.int p3), .val (.int p4), .val (.int p5), .val (.int p6), .val (.int N_), .val (.int (3 : Int32)), .val (.int (p3 ^^^ (-1 : Int32))), .val (.int (p4 ^^^ (-1 : Int32))), .val (.ref b1), .val (.int (own_at (3 : Int32) p3 p4 p5 p6 (p3 ^^^ (-1 : Int32)) (p4 ^^^ (-1 : Int32)))), .unset] [(.int (3 : Int32)), (.ref b1)])) (fun _ k => XS.iload X304.here hx rfl (hb hby at_146) rfl k) ?_
              obtain ⟨cq306, kq306, q306a, q306b, q306c⟩ := isOf hZ e304 f170
              obtain ⟨_, _, ⟨T306, L306, k306, n306⟩, -, X306, ⟨Lc306, hQ306, l306, y306, z306⟩, st306⟩ := X304.virtualBack hx (y := (⟨"com/example/tidegraph/tidegraph/graph/ElementList", "get", "(I)Ljava/lang/Object;"⟩ : MethodName)) (z := (⟨"com/example/tidegraph/tidegraph/graph/ElementList", "get", "(I)Ljava/lang/Object;"⟩ : MethodName)) hown (mvT hZ (hw _ (List.mem_of_getElem? (i := 75) rfl))) (mvT hZ (hw _ (List.mem_of_getElem? (i := 76) rfl))) (notFace_of_selects (args := #[]) (mvT hZ (hw _ (List.mem_of_getElem? (i := 78) rfl)))) (mvT hZ (hw _ (List.mem_of_getElem? (i := 78) rfl))) (mvT hZ (hw _ (List.mem_of_getElem? (i := 77) rfl))) (by decide) (backOf (W := 0) (rm12 l Z a0 hw [] b1 (3 : Int32) ar165 k2165 (8 : Int32) [(.ref r18), (.ref r43), (.ref r72), (.ref r105), (.ref r142), .null, .null, .null] (5 : Int32) r105 T165.heap n0 z183 Fe165 Fs165 Va165 (by decide) (by decide) rfl) hZ (hw _ (List.mem_of_getElem? (i := 79) rfl)) (hw _ (List.mem_of_getElem? (i := 3) rfl)) (by decide) (by decide)) q306a q306c (g := (mkF m 148 #[.val (.int p1), .val (.int p2), .val (.int p3), .val (.int p4), .val (.int p5), .val (.int p6), .val (.int N_), .val (.int (3 : Int32)), .val (.int (p3 ^^^ (-1 : Int32))), .val (.int (p4 ^^^ (-1 : Int32))), .val (.ref b1), .val (.int (own_at (3 : Int32) p3 p4 p5 p6 (p3 ^^^ (-1 : Int32)) (p4 ^^^ (-1 : Int32)))), .unset] [(.int (3 : Int32)), (.ref b1)])) rfl (by rw [hml]; rfl) (Steps.refl _) (argsL := [(.int (3 : Int32))]) (rest := []) (lenOf pd_8 rfl) rfl (by show 2 * 0 + _ ≤ _; exact Nat.le_of_eq rfl) (hb hby at_148) (fun _ _ => ⟨rfl, e304, (by decide : 8 + 0 ≤ _), (by decide : 20 + 0 ≤ _)⟩)
              dsimp only [Pt.U, Pt.locs, Pt.cells, Pt.slots] at X306 l306 y306 z306 st306 hQ306
              subst l306 y306 z306
              obtain ⟨rfl, N306q, e306⟩ := hQ306
              have N307 := Fr.app N305 N306q
              refine Go.via (S' := T306.setTop (mkF m 151 #[.val (.int p1), .val (.int p2), .val (.int p3), .val (.int p4), .val (.int p5), .val (.int p6), .val (.int N_), .val (.int (3 : Int32)), .val (.int (p3 ^^^ (-1 : Int32))), .val (.int (p4 ^^^ (-1 : Int32))), .val (.ref b1), .val (.int (own_at (3 : Int32) p3 p4 p5 p6 (p3 ^^^ (-1 : Int32)) (p4 ^^^ (-1 : Int32)))), .unset] [(.ref r105)])) (fun _ k => st306.trans k) ?_
              obtain ⟨T308, X308, e308, st308⟩ := castY X306 hx hZ hown (hw _ (List.mem_of_getElem? (i := 80) rfl)) e306 (Ins.self f178) (g := (mkF m 151 #[.val (.int p1), .val (.int p2), .val (.int p3), .val (.int p4), .val (.int p5), .val (.int p6), .val (.int N_), .val (.int (3 : Int32)), .val (.int (p3 ^^^ (-1 : Int32))), .val (.int (p4 ^^^ (-1 : Int32))), .val (.ref b1), .val (.int (own_at (3 : Int32) p3 p4 p5 p6 (p3 ^^^ (-1 : Int32)) (p4 ^^^ (-1 : Int32)))), .unset] [(.ref r105)])) rfl rfl (hb hby at_151)
              refine Go.via (S' := T308.setTop (mkF m 154 #[.val (.int p1), .val (.int p2), .val (.int p3), .val (.int p4), .val (.int p5), .val (.int p6), .val (.int N_), .val (.int (3 : Int32)), .val (.int (p3 ^^^ (-1 : Int32))), .val (.int (p4 ^^^ (-1 : Int32))), .val (.ref b1), .val (.int (own_at (3 : Int32) p3 p4 p5 p6 (p3 ^^^ (-1 : Int32)) (p4 ^^^ (-1 : Int32)))), .unset] [(.ref r105)])) (fun _ k => st308 _ k) ?_
              refine Go.via (S' := T308.setTop (mkF m 156 #[.val (.int p1), .val (.int p2), .val (.int p3), .val (.int p4), .val (.int p5), .val (.int p6), .val (.int N_), .val (.int (3 : Int32)), .val (.int (p3 ^^^ (-1 : Int32))), .val (.int (p4 ^^^ (-1 : Int32))), .val (.ref b1), .val (.int (own_at (3 : Int32) p3 p4 p5 p6 (p3 ^^^ (-1 : Int32)) (p4 ^^^ (-1 : Int32)))), .val (.ref r105)] [])) (fun _ k => XS.astore X308.here hx rfl (hb hby at_154) rfl rfl (l' := #[.val (.int p1), .val (.int p2), .val (.int p3), .val (.int p4), .val (.int p5), .val (.int p6), .val (.int N_), .val (.int (3 : Int32)), .val (.int (p3 ^^^ (-1 : Int32))), .val (.int (p4 ^^^ (-1 : Int32))), .val (.ref b1), .val (.int (own_at (3 : Int32) p3 p4 p5 p6 (p3 ^^^ (-1 : Int32)) (p4 ^^^ (-1 : Int32)))), .val (.ref r105)]) rfl k) ?_
              refine Go.via (S' := T308.setTop (mkF m 158 #[.val (.int p1), .val (.int p2), .val (.int p3), .val (.int p4), .val (.int p5), .val (.int p6), .val (.int N_), .val (.int (3 : Int32)), .val (.int (p3 ^^^ (-1 : Int32))), .val (.int (p4 ^^^ (-1 : Int32))), .val (.ref b1), .val (.int (own_at (3 : Int32) p3 p4 p5 p6 (p3 ^^^ (-1 : Int32)) (p4 ^^^ (-1 : Int32)))), .val (.ref r105)] [(.ref r105)])) (fun _ k => XS.aload X308.here hx rfl (hb hby at_156) rfl rfl k) ?_
              refine Go.via (S' := T308.setTop (mkF m 163 #[.val (.int p1), .val (.int p2), .val (.int p3), .val (.int p4), .val (.int p5), .val (.int p6), .val (.int N_), .val (.int (3 : Int32)), .val (.int (p3 ^^^ (-1 : Int32))), .val (.int (p4 ^^^ (-1 : Int32))), .val (.ref b1), .val (.int (own_at (3 : Int32) p3 p4 p5 p6 (p3 ^^^ (-1 : Int32)) (p4 ^^^ (-1 : Int32)))), .val (.ref r105)] [])) (fun _ k => XS.ifnonnullYes X308.here hx rfl (pc0 := 158) (pc' := 163) rfl (hb hby at_158) rfl (by decide) (by decide) k) ?_
              refine Go.via (S' := T308.setTop (mkF m 165 #[.val (.int p1), .val (.int p2), .val (.int p3), .val (.int p4), .val (.int p5), .val (.int p6), .val (.int N_), .val (.int (3 : Int32)), .val (.int (p3 ^^^ (-1 : Int32))), .val (.int (p4 ^^^ (-1 : Int32))), .val (.ref b1), .val (.int (own_at (3 : Int32) p3 p4 p5 p6 (p3 ^^^ (-1 : Int32)) (p4 ^^^ (-1 : Int32)))), .val (.ref r105)] [(.ref r105)])) (fun _ k => XS.aload X308.here hx rfl (hb hby at_163) rfl rfl k) ?_
              obtain ⟨cq309, kq309, q309a, q309b, q309c⟩ := isOf hZ e308 f178
              obtain ⟨_, _, ⟨T309, L309, k309, n309⟩, -, X309, ⟨Lc309, hQ309, l309, y309, z309⟩, st309⟩ := X308.virtualBack hx (y := (⟨"java/lang/Integer", "intValue", "()I"⟩ : MethodName)) (z := (⟨"java/lang/Integer", "intValue", "()I"⟩ : MethodName)) hown (mvT hZ (hw _ (List.mem_of_getElem? (i := 82) rfl))) (mvT hZ (hw _ (List.mem_of_getElem? (i := 83) rfl))) (notFace_of_selects (args := #[]) (mvT hZ (hw _ (List.mem_of_getElem? (i := 85) rfl)))) (mvT hZ (hw _ (List.mem_of_getElem? (i := 85) rfl))) (mvT hZ (hw _ (List.mem_of_getElem? (i := 84) rfl))) (by decide) (backOf (W := 0) (rm13 l Z a0 hw [] r105 p6 T165.heap n0 z183 f179) hZ (hw _ (List.mem_of_getElem? (i := 86) rfl)) (hw _ (List.mem_of_getElem? (i := 29) rfl)) (by decide) (by decide)) q309a q309c (g := (mkF m 165 #[.val (.int p1), .val (.int p2), .val (.int p3), .val (.int p4), .val (.int p5), .val (.int p6), .val (.int N_), .val (.int (3 : Int32)), .val (.int (p3 ^^^ (-1 : Int32))), .val (.int (p4 ^^^ (-1 : Int32))), .val (.ref b1), .val (.int (own_at (3 : Int32) p3 p4 p5 p6 (p3 ^^^ (-1 : Int32)) (p4 ^^^ (-1 : Int32)))), .val (.ref r105)] [(.ref r105)])) rfl (by rw [hml]; rfl) (Steps.refl _) (argsL := []) (rest := []) (lenOf pd_9 rfl) rfl (by show 2 * 0 + _ ≤ _; exact Nat.le_of_eq rfl) (hb hby at_165) (fun _ _ => ⟨rfl, e308, (by decide : 8 + 0 ≤ _), (by decide : 20 + 0 ≤ _)⟩)
              dsimp only [Pt.U, Pt.locs, Pt.cells, Pt.slots] at X309 l309 y309 z309 st309 hQ309
              subst l309 y309 z309
              obtain ⟨rfl, N309q, e309⟩ := hQ309
              have N310 := Fr.app N307 N309q
              refine Go.via (S' := T309.setTop (mkF m 168 #[.val (.int p1), .val (.int p2), .val (.int p3), .val (.int p4), .val (.int p5), .val (.int p6), .val (.int N_), .val (.int (3 : Int32)), .val (.int (p3 ^^^ (-1 : Int32))), .val (.int (p4 ^^^ (-1 : Int32))), .val (.ref b1), .val (.int (own_at (3 : Int32) p3 p4 p5 p6 (p3 ^^^ (-1 : Int32)) (p4 ^^^ (-1 : Int32)))), .val (.ref r105)] [(.int p6)])) (fun _ k => st309.trans k) ?_
              refine Go.via (S' := T309.setTop (mkF m 170 #[.val (.int p1), .val (.int p2), .val (.int p3), .val (.int p4), .val (.int p5), .val (.int p6), .val (.int N_), .val (.int (3 : Int32)), .val (.int (p3 ^^^ (-1 : Int32))), .val (.int (p4 ^^^ (-1 : Int32))), .val (.ref b1), .val (.int (own_at (3 : Int32) p3 p4 p5 p6 (p3 ^^^ (-1 : Int32)) (p4 ^^^ (-1 : Int32)))), .val (.ref r105)] [(.int (own_at (3 : Int32) p3 p4 p5 p6 (p3 ^^^ (-1 : Int32)) (p4 ^^^ (-1 : Int32)))), (.int p6)])) (fun _ k => XS.iload X309.here hx rfl (hb hby at_168) rfl k) ?_
              refine Go.via (S' := T309.setTop (mkF m 173 #[.val (.int p1), .val (.int p2), .val (.int p3), .val (.int p4), .val (.int p5), .val (.int p6), .val (.int N_), .val (.int (3 : Int32)), .val (.int (p3 ^^^ (-1 : Int32))), .val (.int (p4 ^^^ (-1 : Int32))), .val (.ref b1), .val (.int (own_at (3 : Int32) p3 p4 p5 p6 (p3 ^^^ (-1 : Int32)) (p4 ^^^ (-1 : Int32)))), .val (.ref r105)] [])) (fun _ k => XS.icmpNo X309.here hx rfl (hb hby at_170) rfl (teq (by simp [own_at])).2 k) ?_
              refine Go.via (S' := T309.setTop (mkF m 174 #[.val (.int p1), .val (.int p2), .val (.int p3), .val (.int p4), .val (.int p5), .val (.int p6), .val (.int N_), .val (.int (3 : Int32)), .val (.int (p3 ^^^ (-1 : Int32))), .val (.int (p4 ^^^ (-1 : Int32))), .val (.ref b1), .val (.int (own_at (3 : Int32) p3 p4 p5 p6 (p3 ^^^ (-1 : Int32)) (p4 ^^^ (-1 : Int32)))), .val (.ref r105)] [(.int (1 : Int32))])) (fun _ k => XS.iconst X309.here hx rfl (hb hby at_173) k) ?_
              refine Go.via (S' := T309.setTop (mkF m 178 #[.val (.int p1), .val (.int p2), .val (.int p3), .val (.int p4), .val (.int p5), .val (.int p6), .val (.int N_), .val (.int (3 : Int32)), .val (.int (p3 ^^^ (-1 : Int32))), .val (.int (p4 ^^^ (-1 : Int32))), .val (.ref b1), .val (.int (own_at (3 : Int32) p3 p4 p5 p6 (p3 ^^^ (-1 : Int32)) (p4 ^^^ (-1 : Int32)))), .val (.ref r105)] [(.int (1 : Int32))])) (fun _ k => XS.goto X309.here hx rfl (pc0 := 174) (pc' := 178) rfl (hb hby at_174) (by decide) (by decide) k) ?_
              exact Go.retB X309 hx (BodyLoose.notSynchronized Bd) Bd.returns (hb hby at_178) rfl (by rw [e309]; exact ⟨rfl, N310⟩) (by decide) (by decide)
            · obtain rfl : I_ = (4 : Int32) := Int32.toInt_inj.mp hi
              refine Go.via (S' := T165.setTop (mkF m 129 #[.val (.int p1), .val (.int p2), .val (.int p3), .val (.int p4), .val (.int p5), .val (.int p6), .val (.int N_), .val (.int (4 : Int32)), .val (.int (p3 ^^^ (-1 : Int32))), .val (.int (p4 ^^^ (-1 : Int32))), .val (.ref b1), .unset, .unset] [(.int (4 : Int32))])) (fun _ k => XS.iload X165.here hx rfl (hb hby at_127) rfl k) ?_
              refine Go.via (S' := T165.setTop (mkF m 130 #[.val (.int p1), .val (.int p2), .val (.int p3), .val (.int p4), .val (.int p5), .val (.int p6), .val (.int N_), .val (.int (4 : Int32)), .val (.int (p3 ^^^ (-1 : Int32))), .val (.int (p4 ^^^ (-1 : Int32))), .val (.ref b1), .unset, .unset] [(.int p3), (.int (4 : Int32))])) (fun _ k => XS.iloadN X165.here hx rfl (hb hby at_129) rfl k) ?_
              refine Go.via (S' := T165.setTop (mkF m 131 #[.val (.int p1), .val (.int p2), .val (.int p3), .val (.int p4), .val (.int p5), .val (.int p6), .val (.int N_), .val (.int (4 : Int32)), .val (.int (p3 ^^^ (-1 : Int32))), .val (.int (p4 ^^^ (-1 : Int32))), .val (.ref b1), .unset, .unset] [(.int p4), (.int p3), (.int (4 : Int32))])) (fun _ k => XS.iloadN X165.here hx rfl (hb hby at_130) rfl k) ?_
              refine Go.via (S' := T165.setTop (mkF m 133 #[.val (.int p1), .val (.int p2), .val (.int p3), .val (.int p4), .val (.int p5), .val (.int p6), .val (.int N_), .val (.int (4 : Int32)), .val (.int (p3 ^^^ (-1 : Int32))), .val (.int (p4 ^^^ (-1 : Int32))), .val (.ref b1), .unset, .unset] [(.int p5), (.int p4), (.int p3), (.int (4 : Int32))])) (fun _ k => XS.iload X165.here hx rfl (hb hby at_131) rfl k) ?_
              refine Go.via (S' := T165.setTop (mkF m 135 #[.val (.int p1), .val (.int p2), .val (.int p3), .val (.int p4), .val (.int p5), .val (.int p6), .val (.int N_), .val (.int (4 : Int32)), .val (.int (p3 ^^^ (-1 : Int32))), .val (.int (p4 ^^^ (-1 : Int32))), .val (.ref b1), .unset, .unset] [(.int p6), (.int p5), (.int p4), (.int p3), (.int (4 : Int32))])) (fun _ k => XS.iload X165.here hx rfl (hb hby at_133) rfl k) ?_
              refine Go.via (S' := T165.setTop (mkF m 137 #[.val (.int p1), .val (.int p2), .val (.int p3), .val (.int p4), .val (.int p5), .val (.int p6), .val (.int N_), .val (.int (4 : Int32)), .val (.int (p3 ^^^ (-1 : Int32))), .val (.int (p4 ^^^ (-1 : Int32))), .val (.ref b1), .unset, .unset] [(.int (p3 ^^^ (-1 : Int32))), (.int p6), (.int p5), (.int p4), (.int p3), (.int (4 : Int32))])) (fun _ k => XS.iload X165.here hx rfl (hb hby at_135) rfl k) ?_
              refine Go.via (S' := T165.setTop (mkF m 139 #[.val (.int p1), .val (.int p2), .val (.int p3), .val (.int p4), .val (.int p5), .val (.int p6), .val (.int N_), .val (.int (4 : Int32)), .val (.int (p3 ^^^ (-1 : Int32))), .val (.int (p4 ^^^ (-1 : Int32))), .val (.ref b1), .unset, .unset] [(.int (p4 ^^^ (-1 : Int32))), (.int (p3 ^^^ (-1 : Int32))), (.int p6), (.int p5), (.int p4), (.int p3), (.int (4 : Int32))])) (fun _ k => XS.iload X165.here hx rfl (hb hby at_137) rfl k) ?_
              obtain ⟨_, _, ⟨T311, L311, k311, n311⟩, -, X311, ⟨Lc311, hQ311, l311, y311, z311⟩, st311⟩ := Jvm.LawKit.callS X165 hx (y := (⟨"com/example/tidegraph/tidegraph/graph/ElementListGetPinLaw", "expectedAt", "(IIIIIII)I"⟩ : MethodName)) hown (mvT hZ (hw _ (List.mem_of_getElem? (i := 71) rfl))) (mvT hZ (hw _ (List.mem_of_getElem? (i := 72) rfl))) (mvT hZ (hw _ (List.mem_of_getElem? (i := 73) rfl))) (mvT hZ (hw _ (List.mem_of_getElem? (i := 74) rfl))) (by decide) (backOf (W := 0) (rm11 l Z a0 hw [] (4 : Int32) p3 p4 p5 p6 (p3 ^^^ (-1 : Int32)) (p4 ^^^ (-1 : Int32)) T165.heap n0 z183) hZ (hw _ (List.mem_of_getElem? (i := 74) rfl)) (hw _ (List.mem_of_getElem? (i := 73) rfl)) (by decide) (by decide)) (g := (mkF m 139 #[.val (.int p1), .val (.int p2), .val (.int p3), .val (.int p4), .val (.int p5), .val (.int p6), .val (.int N_), .val (.int (4 : Int32)), .val (.int (p3 ^^^ (-1 : Int32))), .val (.int (p4 ^^^ (-1 : Int32))), .val (.ref b1), .unset, .unset] [(.int (p4 ^^^ (-1 : Int32))), (.int (p3 ^^^ (-1 : Int32))), (.int p6), (.int p5), (.int p4), (.int p3), (.int (4 : Int32))])) rfl (by rw [hml]; rfl) (argsL := [(.int (4 : Int32)), (.int p3), (.int p4), (.int p5), (.int p6), (.int (p3 ^^^ (-1 : Int32))), (.int (p4 ^^^ (-1 : Int32)))]) (rest := []) (lenOf pd_7 rfl) rfl (by show 2 * 0 + _ ≤ _; exact Nat.le_of_eq rfl) (hb hby at_139) (fun _ _ => ⟨rfl, rfl, (by decide : 8 + 0 ≤ _), (by decide : 20 + 0 ≤ _)⟩)
              dsimp only [Pt.U, Pt.locs, Pt.cells, Pt.slots] at X311 l311 y311 z311 st311 hQ311
              subst l311 y311 z311
              obtain ⟨rfl, N311q, e311⟩ := hQ311
              have N312 := Fr.app N166 N311q
              refine Go.via (S' := T311.setTop (mkF m 142 #[.val (.int p1), .val (.int p2), .val (.int p3), .val (.int p4), .val (.int p5), .val (.int p6), .val (.int N_), .val (.int (4 : Int32)), .val (.int (p3 ^^^ (-1 : Int32))), .val (.int (p4 ^^^ (-1 : Int32))), .val (.ref b1), .unset, .unset] [(.int (own_at (4 : Int32) p3 p4 p5 p6 (p3 ^^^ (-1 : Int32)) (p4 ^^^ (-1 : Int32))))])) (fun _ k => st311 _ k) ?_
              refine Go.via (S' := T311.setTop (mkF m 144 #[.val (.int p1), .val (.int p2), .val (.int p3), .val (.int p4), .val (.int p5), .val (.int p6), .val (.int N_), .val (.int (4 : Int32)), .val (.int (p3 ^^^ (-1 : Int32))), .val (.int (p4 ^^^ (-1 : Int32))), .val (.ref b1), .val (.int (own_at (4 : Int32) p3 p4 p5 p6 (p3 ^^^ (-1 : Int32)) (p4 ^^^ (-1 : Int32)))), .unset] [])) (fun _ k => XS.istore X311.here hx rfl (hb hby at_142) rfl (l' := #[.val (.int p1), .val (.int p2), .val (.int p3), .val (.int p4), .val (.int p5), .val (.int p6), .val (.int N_), .val (.int (4 : Int32)), .val (.int (p3 ^^^ (-1 : Int32))), .val (.int (p4 ^^^ (-1 : Int32))), .val (.ref b1), .val (.int (own_at (4 : Int32) p3 p4 p5 p6 (p3 ^^^ (-1 : Int32)) (p4 ^^^ (-1 : Int32)))), .unset]) rfl k) ?_
              refine Go.via (S' := T311.setTop (mkF m 146 #[.val (.int p1), .val (.int p2), .val (.int p3), .val (.int p4), .val (.int p5), .val (.int p6), .val (.int N_), .val (.int (4 : Int32)), .val (.int (p3 ^^^ (-1 : Int32))), .val (.int (p4 ^^^ (-1 : Int32))), .val (.ref b1), .val (.int (own_at (4 : Int32) p3 p4 p5 p6 (p3 ^^^ (-1 : Int32)) (p4 ^^^ (-1 : Int32)))), .unset] [(.ref b1)])) (fun _ k => XS.aload X311.here hx rfl (hb hby at_144) rfl rfl k) ?_
              refine Go.via (S' := T311.setTop (mkF m 148 #[.val (.int p1), .val (.int p2), .val (.int p3), .val (.int p4), .val (.int p5), .val (.int p6), .val (.int N_), .val (.int (4 : Int32)), .val (.int (p3 ^^^ (-1 : Int32))), .val (.int (p4 ^^^ (-1 : Int32))), .val (.ref b1), .val (.int (own_at (4 : Int32) p3 p4 p5 p6 (p3 ^^^ (-1 : Int32)) (p4 ^^^ (-1 : Int32)))), .unset] [(.int (4 : Int32)), (.ref b1)])) (fun _ k => XS.iload X311.here hx rfl (hb hby at_146) rfl k) ?_
              obtain ⟨cq313, kq313, q313a, q313b, q313c⟩ := isOf hZ e311 f170
              obtain ⟨_, _, ⟨T313, L313, k313, n313⟩, -, X313, ⟨Lc313, hQ313, l313, y313, z313⟩, st313⟩ := X311.virtualBack hx (y := (⟨"com/example/tidegraph/tidegraph/graph/ElementList", "get", "(I)Ljava/lang/Object;"⟩ : MethodName)) (z := (⟨"com/example/tidegraph/tidegraph/graph/ElementList", "get", "(I)Ljava/lang/Object;"⟩ : MethodName)) hown (mvT hZ (hw _ (List.mem_of_getElem? (i := 75) rfl))) (mvT hZ (hw _ (List.mem_of_getElem? (i := 76) rfl))) (notFace_of_selects (args := #[]) (mvT hZ (hw _ (List.mem_of_getElem? (i := 78) rfl)))) (mvT hZ (hw _ (List.mem_of_getElem? (i := 78) rfl))) (mvT hZ (hw _ (List.mem_of_getElem? (i := 77) rfl))) (by decide) (backOf (W := 0) (rm12 l Z a0 hw [] b1 (4 : Int32) ar165 k2165 (8 : Int32) [(.ref r18), (.ref r43), (.ref r72), (.ref r105), (.ref r142), .null, .null, .null] (5 : Int32) r142 T165.heap n0 z183 Fe165 Fs165 Va165 (by decide) (by decide) rfl) hZ (hw _ (List.mem_of_getElem? (i := 79) rfl)) (hw _ (List.mem_of_getElem? (i := 3) rfl)) (by decide) (by decide)) q313a q313c (g := (mkF m 148 #[.val (.int p1), .val (.int p2), .val (.int p3), .val (.int p4), .val (.int p5), .val (.int p6), .val (.int N_), .val (.int (4 : Int32)), .val (.int (p3 ^^^ (-1 : Int32))), .val (.int (p4 ^^^ (-1 : Int32))), .val (.ref b1), .val (.int (own_at (4 : Int32) p3 p4 p5 p6 (p3 ^^^ (-1 : Int32)) (p4 ^^^ (-1 : Int32)))), .unset] [(.int (4 : Int32)), (.ref b1)])) rfl (by rw [hml]; rfl) (Steps.refl _) (argsL := [(.int (4 : Int32))]) (rest := []) (lenOf pd_8 rfl) rfl (by show 2 * 0 + _ ≤ _; exact Nat.le_of_eq rfl) (hb hby at_148) (fun _ _ => ⟨rfl, e311, (by decide : 8 + 0 ≤ _), (by decide : 20 + 0 ≤ _)⟩)
              dsimp only [Pt.U, Pt.locs, Pt.cells, Pt.slots] at X313 l313 y313 z313 st313 hQ313
              subst l313 y313 z313
              obtain ⟨rfl, N313q, e313⟩ := hQ313
              have N314 := Fr.app N312 N313q
              refine Go.via (S' := T313.setTop (mkF m 151 #[.val (.int p1), .val (.int p2), .val (.int p3), .val (.int p4), .val (.int p5), .val (.int p6), .val (.int N_), .val (.int (4 : Int32)), .val (.int (p3 ^^^ (-1 : Int32))), .val (.int (p4 ^^^ (-1 : Int32))), .val (.ref b1), .val (.int (own_at (4 : Int32) p3 p4 p5 p6 (p3 ^^^ (-1 : Int32)) (p4 ^^^ (-1 : Int32)))), .unset] [(.ref r142)])) (fun _ k => st313.trans k) ?_
              obtain ⟨T315, X315, e315, st315⟩ := castY X313 hx hZ hown (hw _ (List.mem_of_getElem? (i := 80) rfl)) e313 (Ins.self f181) (g := (mkF m 151 #[.val (.int p1), .val (.int p2), .val (.int p3), .val (.int p4), .val (.int p5), .val (.int p6), .val (.int N_), .val (.int (4 : Int32)), .val (.int (p3 ^^^ (-1 : Int32))), .val (.int (p4 ^^^ (-1 : Int32))), .val (.ref b1), .val (.int (own_at (4 : Int32) p3 p4 p5 p6 (p3 ^^^ (-1 : Int32)) (p4 ^^^ (-1 : Int32)))), .unset] [(.ref r142)])) rfl rfl (hb hby at_151)
              refine Go.via (S' := T315.setTop (mkF m 154 #[.val (.int p1), .val (.int p2), .val (.int p3), .val (.int p4), .val (.int p5), .val (.int p6), .val (.int N_), .val (.int (4 : Int32)), .val (.int (p3 ^^^ (-1 : Int32))), .val (.int (p4 ^^^ (-1 : Int32))), .val (.ref b1), .val (.int (own_at (4 : Int32) p3 p4 p5 p6 (p3 ^^^ (-1 : Int32)) (p4 ^^^ (-1 : Int32)))), .unset] [(.ref r142)])) (fun _ k => st315 _ k) ?_
              refine Go.via (S' := T315.setTop (mkF m 156 #[.val (.int p1), .val (.int p2), .val (.int p3), .val (.int p4), .val (.int p5), .val (.int p6), .val (.int N_), .val (.int (4 : Int32)), .val (.int (p3 ^^^ (-1 : Int32))), .val (.int (p4 ^^^ (-1 : Int32))), .val (.ref b1), .val (.int (own_at (4 : Int32) p3 p4 p5 p6 (p3 ^^^ (-1 : Int32)) (p4 ^^^ (-1 : Int32)))), .val (.ref r142)] [])) (fun _ k => XS.astore X315.here hx rfl (hb hby at_154) rfl rfl (l' := #[.val (.int p1), .val (.int p2), .val (.int p3), .val (.int p4), .val (.int p5), .val (.int p6), .val (.int N_), .val (.int (4 : Int32)), .val (.int (p3 ^^^ (-1 : Int32))), .val (.int (p4 ^^^ (-1 : Int32))), .val (.ref b1), .val (.int (own_at (4 : Int32) p3 p4 p5 p6 (p3 ^^^ (-1 : Int32)) (p4 ^^^ (-1 : Int32)))), .val (.ref r142)]) rfl k) ?_
              refine Go.via (S' := T315.setTop (mkF m 158 #[.val (.int p1), .val (.int p2), .val (.int p3), .val (.int p4), .val (.int p5), .val (.int p6), .val (.int N_), .val (.int (4 : Int32)), .val (.int (p3 ^^^ (-1 : Int32))), .val (.int (p4 ^^^ (-1 : Int32))), .val (.ref b1), .val (.int (own_at (4 : Int32) p3 p4 p5 p6 (p3 ^^^ (-1 : Int32)) (p4 ^^^ (-1 : Int32)))), .val (.ref r142)] [(.ref r142)])) (fun _ k => XS.aload X315.here hx rfl (hb hby at_156) rfl rfl k) ?_
              refine Go.via (S' := T315.setTop (mkF m 163 #[.val (.int p1), .val (.int p2), .val (.int p3), .val (.int p4), .val (.int p5), .val (.int p6), .val (.int N_), .val (.int (4 : Int32)), .val (.int (p3 ^^^ (-1 : Int32))), .val (.int (p4 ^^^ (-1 : Int32))), .val (.ref b1), .val (.int (own_at (4 : Int32) p3 p4 p5 p6 (p3 ^^^ (-1 : Int32)) (p4 ^^^ (-1 : Int32)))), .val (.ref r142)] [])) (fun _ k => XS.ifnonnullYes X315.here hx rfl (pc0 := 158) (pc' := 163) rfl (hb hby at_158) rfl (by decide) (by decide) k) ?_
              refine Go.via (S' := T315.setTop (mkF m 165 #[.val (.int p1), .val (.int p2), .val (.int p3), .val (.int p4), .val (.int p5), .val (.int p6), .val (.int N_), .val (.int (4 : Int32)), .val (.int (p3 ^^^ (-1 : Int32))), .val (.int (p4 ^^^ (-1 : Int32))), .val (.ref b1), .val (.int (own_at (4 : Int32) p3 p4 p5 p6 (p3 ^^^ (-1 : Int32)) (p4 ^^^ (-1 : Int32)))), .val (.ref r142)] [(.ref r142)])) (fun _ k => XS.aload X315.here hx rfl (hb hby at_163) rfl rfl k) ?_
              obtain ⟨cq316, kq316, q316a, q316b, q316c⟩ := isOf hZ e315 f181
              obtain ⟨_, _, ⟨T316, L316, k316, n316⟩, -, X316, ⟨Lc316, hQ316, l316, y316, z316⟩, st316⟩ := X315.virtualBack hx (y := (⟨"java/lang/Integer", "intValue", "()I"⟩ : MethodName)) (z := (⟨"java/lang/Integer", "intValue", "()I"⟩ : MethodName)) hown (mvT hZ (hw _ (List.mem_of_getElem? (i := 82) rfl))) (mvT hZ (hw _ (List.mem_of_getElem? (i := 83) rfl))) (notFace_of_selects (args := #[]) (mvT hZ (hw _ (List.mem_of_getElem? (i := 85) rfl)))) (mvT hZ (hw _ (List.mem_of_getElem? (i := 85) rfl))) (mvT hZ (hw _ (List.mem_of_getElem? (i := 84) rfl))) (by decide) (backOf (W := 0) (rm13 l Z a0 hw [] r142 (p3 ^^^ (-1 : Int32)) T165.heap n0 z183 f182) hZ (hw _ (List.mem_of_getElem? (i := 86) rfl)) (hw _ (List.mem_of_getElem? (i := 29) rfl)) (by decide) (by decide)) q316a q316c (g := (mkF m 165 #[.val (.int p1), .val (.int p2), .val (.int p3), .val (.int p4), .val (.int p5), .val (.int p6), .val (.int N_), .val (.int (4 : Int32)), .val (.int (p3 ^^^ (-1 : Int32))), .val (.int (p4 ^^^ (-1 : Int32))), .val (.ref b1), .val (.int (own_at (4 : Int32) p3 p4 p5 p6 (p3 ^^^ (-1 : Int32)) (p4 ^^^ (-1 : Int32)))), .val (.ref r142)] [(.ref r142)])) rfl (by rw [hml]; rfl) (Steps.refl _) (argsL := []) (rest := []) (lenOf pd_9 rfl) rfl (by show 2 * 0 + _ ≤ _; exact Nat.le_of_eq rfl) (hb hby at_165) (fun _ _ => ⟨rfl, e315, (by decide : 8 + 0 ≤ _), (by decide : 20 + 0 ≤ _)⟩)
              dsimp only [Pt.U, Pt.locs, Pt.cells, Pt.slots] at X316 l316 y316 z316 st316 hQ316
              subst l316 y316 z316
              obtain ⟨rfl, N316q, e316⟩ := hQ316
              have N317 := Fr.app N314 N316q
              refine Go.via (S' := T316.setTop (mkF m 168 #[.val (.int p1), .val (.int p2), .val (.int p3), .val (.int p4), .val (.int p5), .val (.int p6), .val (.int N_), .val (.int (4 : Int32)), .val (.int (p3 ^^^ (-1 : Int32))), .val (.int (p4 ^^^ (-1 : Int32))), .val (.ref b1), .val (.int (own_at (4 : Int32) p3 p4 p5 p6 (p3 ^^^ (-1 : Int32)) (p4 ^^^ (-1 : Int32)))), .val (.ref r142)] [(.int (p3 ^^^ (-1 : Int32)))])) (fun _ k => st316.trans k) ?_
              refine Go.via (S' := T316.setTop (mkF m 170 #[.val (.int p1), .val (.int p2), .val (.int p3), .val (.int p4), .val (.int p5), .val (.int p6), .val (.int N_), .val (.int (4 : Int32)), .val (.int (p3 ^^^ (-1 : Int32))), .val (.int (p4 ^^^ (-1 : Int32))), .val (.ref b1), .val (.int (own_at (4 : Int32) p3 p4 p5 p6 (p3 ^^^ (-1 : Int32)) (p4 ^^^ (-1 : Int32)))), .val (.ref r142)] [(.int (own_at (4 : Int32) p3 p4 p5 p6 (p3 ^^^ (-1 : Int32)) (p4 ^^^ (-1 : Int32)))), (.int (p3 ^^^ (-1 : Int32)))])) (fun _ k => XS.iload X316.here hx rfl (hb hby at_168) rfl k) ?_
              refine Go.via (S' := T316.setTop (mkF m 173 #[.val (.int p1), .val (.int p2), .val (.int p3), .val (.int p4), .val (.int p5), .val (.int p6), .val (.int N_), .val (.int (4 : Int32)), .val (.int (p3 ^^^ (-1 : Int32))), .val (.int (p4 ^^^ (-1 : Int32))), .val (.ref b1), .val (.int (own_at (4 : Int32) p3 p4 p5 p6 (p3 ^^^ (-1 : Int32)) (p4 ^^^ (-1 : Int32)))), .val (.ref r142)] [])) (fun _ k => XS.icmpNo X316.here hx rfl (hb hby at_170) rfl (teq (by simp [own_at])).2 k) ?_
              refine Go.via (S' := T316.setTop (mkF m 174 #[.val (.int p1), .val (.int p2), .val (.int p3), .val (.int p4), .val (.int p5), .val (.int p6), .val (.int N_), .val (.int (4 : Int32)), .val (.int (p3 ^^^ (-1 : Int32))), .val (.int (p4 ^^^ (-1 : Int32))), .val (.ref b1), .val (.int (own_at (4 : Int32) p3 p4 p5 p6 (p3 ^^^ (-1 : Int32)) (p4 ^^^ (-1 : Int32)))), .val (.ref r142)] [(.int (1 : Int32))])) (fun _ k => XS.iconst X316.here hx rfl (hb hby at_173) k) ?_
              refine Go.via (S' := T316.setTop (mkF m 178 #[.val (.int p1), .val (.int p2), .val (.int p3), .val (.int p4), .val (.int p5), .val (.int p6), .val (.int N_), .val (.int (4 : Int32)), .val (.int (p3 ^^^ (-1 : Int32))), .val (.int (p4 ^^^ (-1 : Int32))), .val (.ref b1), .val (.int (own_at (4 : Int32) p3 p4 p5 p6 (p3 ^^^ (-1 : Int32)) (p4 ^^^ (-1 : Int32)))), .val (.ref r142)] [(.int (1 : Int32))])) (fun _ k => XS.goto X316.here hx rfl (pc0 := 174) (pc' := 178) rfl (hb hby at_174) (by decide) (by decide) k) ?_
              exact Go.retB X316 hx (BodyLoose.notSynchronized Bd) Bd.returns (hb hby at_178) rfl (by rw [e316]; exact ⟨rfl, N317⟩) (by decide) (by decide)
        · refine Go.via (S' := T126.setTop (mkF m 111 #[.val (.int p1), .val (.int p2), .val (.int p3), .val (.int p4), .val (.int p5), .val (.int p6), .val (.int N_), .val (.int I_), .val (.int (p3 ^^^ (-1 : Int32))), .val (.int (p4 ^^^ (-1 : Int32))), .val (.ref b1), .unset, .unset] [])) (fun _ k => XS.icmpYes X126.here hx rfl (pc0 := 98) (pc' := 111) rfl (hb hby at_98) rfl (flt hc98).2.2.2 (by decide) (by decide) k) ?_
          refine Go.via (S' := T126.setTop (mkF m 113 #[.val (.int p1), .val (.int p2), .val (.int p3), .val (.int p4), .val (.int p5), .val (.int p6), .val (.int N_), .val (.int I_), .val (.int (p3 ^^^ (-1 : Int32))), .val (.int (p4 ^^^ (-1 : Int32))), .val (.ref b1), .unset, .unset] [(.int N_)])) (fun _ k => XS.iload X126.here hx rfl (hb hby at_111) rfl k) ?_
          refine Go.via (S' := T126.setTop (mkF m 114 #[.val (.int p1), .val (.int p2), .val (.int p3), .val (.int p4), .val (.int p5), .val (.int p6), .val (.int N_), .val (.int I_), .val (.int (p3 ^^^ (-1 : Int32))), .val (.int (p4 ^^^ (-1 : Int32))), .val (.ref b1), .unset, .unset] [(.int (5 : Int32)), (.int N_)])) (fun _ k => XS.iconst X126.here hx rfl (hb hby at_113) k) ?_
          refine Go.via (S' := T126.setTop (mkF m 127 #[.val (.int p1), .val (.int p2), .val (.int p3), .val (.int p4), .val (.int p5), .val (.int p6), .val (.int N_), .val (.int I_), .val (.int (p3 ^^^ (-1 : Int32))), .val (.int (p4 ^^^ (-1 : Int32))), .val (.ref b1), .unset, .unset] [])) (fun _ k => XS.icmpYes X126.here hx rfl (pc0 := 114) (pc' := 127) rfl (hb hby at_114) rfl (flt (fun q => by rw [Int32.lt_iff_toInt_lt] at hc98 q; revert q hc98; show ¬ (4 < N_.toInt) → 5 < N_.toInt → False; omega)).2.2.2 (by decide) (by decide) k) ?_
          have hm : I_.toInt < 4 := by
            have t51 : 1 < N_.toInt := by rw [Int32.lt_iff_toInt_lt] at hc51; exact hc51
            have t66 : 2 < N_.toInt := by rw [Int32.lt_iff_toInt_lt] at hc66; exact hc66
            have t82 : 3 < N_.toInt := by rw [Int32.lt_iff_toInt_lt] at hc82; exact hc82
            have t98 : ¬ (4 < N_.toInt) := by rw [Int32.lt_iff_toInt_lt] at hc98; exact hc98
            have := hN.2
            have := hI.2
            omega
          rcases (by have := hI.1; omega : I_.toInt = 0 ∨ I_.toInt = 1 ∨ I_.toInt = 2 ∨ I_.toInt = 3) with hi | hi | hi | hi
          · obtain rfl : I_ = (0 : Int32) := Int32.toInt_inj.mp hi
            refine Go.via (S' := T126.setTop (mkF m 129 #[.val (.int p1), .val (.int p2), .val (.int p3), .val (.int p4), .val (.int p5), .val (.int p6), .val (.int N_), .val (.int (0 : Int32)), .val (.int (p3 ^^^ (-1 : Int32))), .val (.int (p4 ^^^ (-1 : Int32))), .val (.ref b1), .unset, .unset] [(.int (0 : Int32))])) (fun _ k => XS.iload X126.here hx rfl (hb hby at_127) rfl k) ?_
            refine Go.via (S' := T126.setTop (mkF m 130 #[.val (.int p1), .val (.int p2), .val (.int p3), .val (.int p4), .val (.int p5), .val (.int p6), .val (.int N_), .val (.int (0 : Int32)), .val (.int (p3 ^^^ (-1 : Int32))), .val (.int (p4 ^^^ (-1 : Int32))), .val (.ref b1), .unset, .unset] [(.int p3), (.int (0 : Int32))])) (fun _ k => XS.iloadN X126.here hx rfl (hb hby at_129) rfl k) ?_
            refine Go.via (S' := T126.setTop (mkF m 131 #[.val (.int p1), .val (.int p2), .val (.int p3), .val (.int p4), .val (.int p5), .val (.int p6), .val (.int N_), .val (.int (0 : Int32)), .val (.int (p3 ^^^ (-1 : Int32))), .val (.int (p4 ^^^ (-1 : Int32))), .val (.ref b1), .unset, .unset] [(.int p4), (.int p3), (.int (0 : Int32))])) (fun _ k => XS.iloadN X126.here hx rfl (hb hby at_130) rfl k) ?_
            refine Go.via (S' := T126.setTop (mkF m 133 #[.val (.int p1), .val (.int p2), .val (.int p3), .val (.int p4), .val (.int p5), .val (.int p6), .val (.int N_), .val (.int (0 : Int32)), .val (.int (p3 ^^^ (-1 : Int32))), .val (.int (p4 ^^^ (-1 : Int32))), .val (.ref b1), .unset, .unset] [(.int p5), (.int p4), (.int p3), (.int (0 : Int32))])) (fun _ k => XS.iload X126.here hx rfl (hb hby at_131) rfl k) ?_
            refine Go.via (S' := T126.setTop (mkF m 135 #[.val (.int p1), .val (.int p2), .val (.int p3), .val (.int p4), .val (.int p5), .val (.int p6), .val (.int N_), .val (.int (0 : Int32)), .val (.int (p3 ^^^ (-1 : Int32))), .val (.int (p4 ^^^ (-1 : Int32))), .val (.ref b1), .unset, .unset] [(.int p6), (.int p5), (.int p4), (.int p3), (.int (0 : Int32))])) (fun _ k => XS.iload X126.here hx rfl (hb hby at_133) rfl k) ?_
            refine Go.via (S' := T126.setTop (mkF m 137 #[.val (.int p1), .val (.int p2), .val (.int p3), .val (.int p4), .val (.int p5), .val (.int p6), .val (.int N_), .val (.int (0 : Int32)), .val (.int (p3 ^^^ (-1 : Int32))), .val (.int (p4 ^^^ (-1 : Int32))), .val (.ref b1), .unset, .unset] [(.int (p3 ^^^ (-1 : Int32))), (.int p6), (.int p5), (.int p4), (.int p3), (.int (0 : Int32))])) (fun _ k => XS.iload X126.here hx rfl (hb hby at_135) rfl k) ?_
            refine Go.via (S' := T126.setTop (mkF m 139 #[.val (.int p1), .val (.int p2), .val (.int p3), .val (.int p4), .val (.int p5), .val (.int p6), .val (.int N_), .val (.int (0 : Int32)), .val (.int (p3 ^^^ (-1 : Int32))), .val (.int (p4 ^^^ (-1 : Int32))), .val (.ref b1), .unset, .unset] [(.int (p4 ^^^ (-1 : Int32))), (.int (p3 ^^^ (-1 : Int32))), (.int p6), (.int p5), (.int p4), (.int p3), (.int (0 : Int32))])) (fun _ k => XS.iload X126.here hx rfl (hb hby at_137) rfl k) ?_
            obtain ⟨_, _, ⟨T318, L318, k318, n318⟩, -, X318, ⟨Lc318, hQ318, l318, y318, z318⟩, st318⟩ := Jvm.LawKit.callS X126 hx (y := (⟨"com/example/tidegraph/tidegraph/graph/ElementListGetPinLaw", "expectedAt", "(IIIIIII)I"⟩ : MethodName)) hown (mvT hZ (hw _ (List.mem_of_getElem? (i := 71) rfl))) (mvT hZ (hw _ (List.mem_of_getElem? (i := 72) rfl))) (mvT hZ (hw _ (List.mem_of_getElem? (i := 73) rfl))) (mvT hZ (hw _ (List.mem_of_getElem? (i := 74) rfl))) (by decide) (backOf (W := 0) (rm11 l Z a0 hw [] (0 : Int32) p3 p4 p5 p6 (p3 ^^^ (-1 : Int32)) (p4 ^^^ (-1 : Int32)) T126.heap n0 z141) hZ (hw _ (List.mem_of_getElem? (i := 74) rfl)) (hw _ (List.mem_of_getElem? (i := 73) rfl)) (by decide) (by decide)) (g := (mkF m 139 #[.val (.int p1), .val (.int p2), .val (.int p3), .val (.int p4), .val (.int p5), .val (.int p6), .val (.int N_), .val (.int (0 : Int32)), .val (.int (p3 ^^^ (-1 : Int32))), .val (.int (p4 ^^^ (-1 : Int32))), .val (.ref b1), .unset, .unset] [(.int (p4 ^^^ (-1 : Int32))), (.int (p3 ^^^ (-1 : Int32))), (.int p6), (.int p5), (.int p4), (.int p3), (.int (0 : Int32))])) rfl (by rw [hml]; rfl) (argsL := [(.int (0 : Int32)), (.int p3), (.int p4), (.int p5), (.int p6), (.int (p3 ^^^ (-1 : Int32))), (.int (p4 ^^^ (-1 : Int32)))]) (rest := []) (lenOf pd_7 rfl) rfl (by show 2 * 0 + _ ≤ _; exact Nat.le_of_eq rfl) (hb hby at_139) (fun _ _ => ⟨rfl, rfl, (by decide : 6 + 0 ≤ _), (by decide : 11 + 0 ≤ _)⟩)
            dsimp only [Pt.U, Pt.locs, Pt.cells, Pt.slots] at X318 l318 y318 z318 st318 hQ318
            subst l318 y318 z318
            obtain ⟨rfl, N318q, e318⟩ := hQ318
            have N319 := Fr.app N127 N318q
            refine Go.via (S' := T318.setTop (mkF m 142 #[.val (.int p1), .val (.int p2), .val (.int p3), .val (.int p4), .val (.int p5), .val (.int p6), .val (.int N_), .val (.int (0 : Int32)), .val (.int (p3 ^^^ (-1 : Int32))), .val (.int (p4 ^^^ (-1 : Int32))), .val (.ref b1), .unset, .unset] [(.int (own_at (0 : Int32) p3 p4 p5 p6 (p3 ^^^ (-1 : Int32)) (p4 ^^^ (-1 : Int32))))])) (fun _ k => st318 _ k) ?_
            refine Go.via (S' := T318.setTop (mkF m 144 #[.val (.int p1), .val (.int p2), .val (.int p3), .val (.int p4), .val (.int p5), .val (.int p6), .val (.int N_), .val (.int (0 : Int32)), .val (.int (p3 ^^^ (-1 : Int32))), .val (.int (p4 ^^^ (-1 : Int32))), .val (.ref b1), .val (.int (own_at (0 : Int32) p3 p4 p5 p6 (p3 ^^^ (-1 : Int32)) (p4 ^^^ (-1 : Int32)))), .unset] [])) (fun _ k => XS.istore X318.here hx rfl (hb hby at_142) rfl (l' := #[.val (.int p1), .val (.int p2), .val (.int p3), .val (.int p4), .val (.int p5), .val (.int p6), .val (.int N_), .val (.int (0 : Int32)), .val (.int (p3 ^^^ (-1 : Int32))), .val (.int (p4 ^^^ (-1 : Int32))), .val (.ref b1), .val (.int (own_at (0 : Int32) p3 p4 p5 p6 (p3 ^^^ (-1 : Int32)) (p4 ^^^ (-1 : Int32)))), .unset]) rfl k) ?_
            refine Go.via (S' := T318.setTop (mkF m 146 #[.val (.int p1), .val (.int p2), .val (.int p3), .val (.int p4), .val (.int p5), .val (.int p6), .val (.int N_), .val (.int (0 : Int32)), .val (.int (p3 ^^^ (-1 : Int32))), .val (.int (p4 ^^^ (-1 : Int32))), .val (.ref b1), .val (.int (own_at (0 : Int32) p3 p4 p5 p6 (p3 ^^^ (-1 : Int32)) (p4 ^^^ (-1 : Int32)))), .unset] [(.ref b1)])) (fun _ k => XS.aload X318.here hx rfl (hb hby at_144) rfl rfl k) ?_
            refine Go.via (S' := T318.setTop (mkF m 148 #[.val (.int p1), .val (.int p2), .val (.int p3), .val (.int p4), .val (.int p5), .val (.int p6), .val (.int N_), .val (.int (0 : Int32)), .val (.int (p3 ^^^ (-1 : Int32))), .val (.int (p4 ^^^ (-1 : Int32))), .val (.ref b1), .val (.int (own_at (0 : Int32) p3 p4 p5 p6 (p3 ^^^ (-1 : Int32)) (p4 ^^^ (-1 : Int32)))), .unset] [(.int (0 : Int32)), (.ref b1)])) (fun _ k => XS.iload X318.here hx rfl (hb hby at_146) rfl k) ?_
            obtain ⟨cq320, kq320, q320a, q320b, q320c⟩ := isOf hZ e318 f131
            obtain ⟨_, _, ⟨T320, L320, k320, n320⟩, -, X320, ⟨Lc320, hQ320, l320, y320, z320⟩, st320⟩ := X318.virtualBack hx (y := (⟨"com/example/tidegraph/tidegraph/graph/ElementList", "get", "(I)Ljava/lang/Object;"⟩ : MethodName)) (z := (⟨"com/example/tidegraph/tidegraph/graph/ElementList", "get", "(I)Ljava/lang/Object;"⟩ : MethodName)) hown (mvT hZ (hw _ (List.mem_of_getElem? (i := 75) rfl))) (mvT hZ (hw _ (List.mem_of_getElem? (i := 76) rfl))) (notFace_of_selects (args := #[]) (mvT hZ (hw _ (List.mem_of_getElem? (i := 78) rfl)))) (mvT hZ (hw _ (List.mem_of_getElem? (i := 78) rfl))) (mvT hZ (hw _ (List.mem_of_getElem? (i := 77) rfl))) (by decide) (backOf (W := 0) (rm12 l Z a0 hw [] b1 (0 : Int32) ar31 k231 (4 : Int32) [(.ref r18), (.ref r43), (.ref r72), (.ref r105)] (4 : Int32) r18 T126.heap n0 z141 Fe126 Fs126 Va126 (by decide) (by decide) rfl) hZ (hw _ (List.mem_of_getElem? (i := 79) rfl)) (hw _ (List.mem_of_getElem? (i := 3) rfl)) (by decide) (by decide)) q320a q320c (g := (mkF m 148 #[.val (.int p1), .val (.int p2), .val (.int p3), .val (.int p4), .val (.int p5), .val (.int p6), .val (.int N_), .val (.int (0 : Int32)), .val (.int (p3 ^^^ (-1 : Int32))), .val (.int (p4 ^^^ (-1 : Int32))), .val (.ref b1), .val (.int (own_at (0 : Int32) p3 p4 p5 p6 (p3 ^^^ (-1 : Int32)) (p4 ^^^ (-1 : Int32)))), .unset] [(.int (0 : Int32)), (.ref b1)])) rfl (by rw [hml]; rfl) (Steps.refl _) (argsL := [(.int (0 : Int32))]) (rest := []) (lenOf pd_8 rfl) rfl (by show 2 * 0 + _ ≤ _; exact Nat.le_of_eq rfl) (hb hby at_148) (fun _ _ => ⟨rfl, e318, (by decide : 6 + 0 ≤ _), (by decide : 11 + 0 ≤ _)⟩)
            dsimp only [Pt.U, Pt.locs, Pt.cells, Pt.slots] at X320 l320 y320 z320 st320 hQ320
            subst l320 y320 z320
            obtain ⟨rfl, N320q, e320⟩ := hQ320
            have N321 := Fr.app N319 N320q
            refine Go.via (S' := T320.setTop (mkF m 151 #[.val (.int p1), .val (.int p2), .val (.int p3), .val (.int p4), .val (.int p5), .val (.int p6), .val (.int N_), .val (.int (0 : Int32)), .val (.int (p3 ^^^ (-1 : Int32))), .val (.int (p4 ^^^ (-1 : Int32))), .val (.ref b1), .val (.int (own_at (0 : Int32) p3 p4 p5 p6 (p3 ^^^ (-1 : Int32)) (p4 ^^^ (-1 : Int32)))), .unset] [(.ref r18)])) (fun _ k => st320.trans k) ?_
            obtain ⟨T322, X322, e322, st322⟩ := castY X320 hx hZ hown (hw _ (List.mem_of_getElem? (i := 80) rfl)) e320 (Ins.self f132) (g := (mkF m 151 #[.val (.int p1), .val (.int p2), .val (.int p3), .val (.int p4), .val (.int p5), .val (.int p6), .val (.int N_), .val (.int (0 : Int32)), .val (.int (p3 ^^^ (-1 : Int32))), .val (.int (p4 ^^^ (-1 : Int32))), .val (.ref b1), .val (.int (own_at (0 : Int32) p3 p4 p5 p6 (p3 ^^^ (-1 : Int32)) (p4 ^^^ (-1 : Int32)))), .unset] [(.ref r18)])) rfl rfl (hb hby at_151)
            refine Go.via (S' := T322.setTop (mkF m 154 #[.val (.int p1), .val (.int p2), .val (.int p3), .val (.int p4), .val (.int p5), .val (.int p6), .val (.int N_), .val (.int (0 : Int32)), .val (.int (p3 ^^^ (-1 : Int32))), .val (.int (p4 ^^^ (-1 : Int32))), .val (.ref b1), .val (.int (own_at (0 : Int32) p3 p4 p5 p6 (p3 ^^^ (-1 : Int32)) (p4 ^^^ (-1 : Int32)))), .unset] [(.ref r18)])) (fun _ k => st322 _ k) ?_
            refine Go.via (S' := T322.setTop (mkF m 156 #[.val (.int p1), .val (.int p2), .val (.int p3), .val (.int p4), .val (.int p5), .val (.int p6), .val (.int N_), .val (.int (0 : Int32)), .val (.int (p3 ^^^ (-1 : Int32))), .val (.int (p4 ^^^ (-1 : Int32))), .val (.ref b1), .val (.int (own_at (0 : Int32) p3 p4 p5 p6 (p3 ^^^ (-1 : Int32)) (p4 ^^^ (-1 : Int32)))), .val (.ref r18)] [])) (fun _ k => XS.astore X322.here hx rfl (hb hby at_154) rfl rfl (l' := #[.val (.int p1), .val (.int p2), .val (.int p3), .val (.int p4), .val (.int p5), .val (.int p6), .val (.int N_), .val (.int (0 : Int32)), .val (.int (p3 ^^^ (-1 : Int32))), .val (.int (p4 ^^^ (-1 : Int32))), .val (.ref b1), .val (.int (own_at (0 : Int32) p3 p4 p5 p6 (p3 ^^^ (-1 : Int32)) (p4 ^^^ (-1 : Int32)))), .val (.ref r18)]) rfl k) ?_
            refine Go.via (S' := T322.setTop (mkF m 158 #[.val (.int p1), .val (.int p2), .val (.int p3), .val (.int p4), .val (.int p5), .val (.int p6), .val (.int N_), .val (.int (0 : Int32)), .val (.int (p3 ^^^ (-1 : Int32))), .val (.int (p4 ^^^ (-1 : Int32))), .val (.ref b1), .val (.int (own_at (0 : Int32) p3 p4 p5 p6 (p3 ^^^ (-1 : Int32)) (p4 ^^^ (-1 : Int32)))), .val (.ref r18)] [(.ref r18)])) (fun _ k => XS.aload X322.here hx rfl (hb hby at_156) rfl rfl k) ?_
            refine Go.via (S' := T322.setTop (mkF m 163 #[.val (.int p1), .val (.int p2), .val (.int p3), .val (.int p4), .val (.int p5), .val (.int p6), .val (.int N_), .val (.int (0 : Int32)), .val (.int (p3 ^^^ (-1 : Int32))), .val (.int (p4 ^^^ (-1 : Int32))), .val (.ref b1), .val (.int (own_at (0 : Int32) p3 p4 p5 p6 (p3 ^^^ (-1 : Int32)) (p4 ^^^ (-1 : Int32)))), .val (.ref r18)] [])) (fun _ k => XS.ifnonnullYes X322.here hx rfl (pc0 := 158) (pc' := 163) rfl (hb hby at_158) rfl (by decide) (by decide) k) ?_
            refine Go.via (S' := T322.setTop (mkF m 165 #[.val (.int p1), .val (.int p2), .val (.int p3), .val (.int p4), .val (.int p5), .val (.int p6), .val (.int N_), .val (.int (0 : Int32)), .val (.int (p3 ^^^ (-1 : Int32))), .val (.int (p4 ^^^ (-1 : Int32))), .val (.ref b1), .val (.int (own_at (0 : Int32) p3 p4 p5 p6 (p3 ^^^ (-1 : Int32)) (p4 ^^^ (-1 : Int32)))), .val (.ref r18)] [(.ref r18)])) (fun _ k => XS.aload X322.here hx rfl (hb hby at_163) rfl rfl k) ?_
            obtain ⟨cq323, kq323, q323a, q323b, q323c⟩ := isOf hZ e322 f132
            obtain ⟨_, _, ⟨T323, L323, k323, n323⟩, -, X323, ⟨Lc323, hQ323, l323, y323, z323⟩, st323⟩ := X322.virtualBack hx (y := (⟨"java/lang/Integer", "intValue", "()I"⟩ : MethodName)) (z := (⟨"java/lang/Integer", "intValue", "()I"⟩ : MethodName)) hown (mvT hZ (hw _ (List.mem_of_getElem? (i := 82) rfl))) (mvT hZ (hw _ (List.mem_of_getElem? (i := 83) rfl))) (notFace_of_selects (args := #[]) (mvT hZ (hw _ (List.mem_of_getElem? (i := 85) rfl)))) (mvT hZ (hw _ (List.mem_of_getElem? (i := 85) rfl))) (mvT hZ (hw _ (List.mem_of_getElem? (i := 84) rfl))) (by decide) (backOf (W := 0) (rm13 l Z a0 hw [] r18 p3 T126.heap n0 z141 f133) hZ (hw _ (List.mem_of_getElem? (i := 86) rfl)) (hw _ (List.mem_of_getElem? (i := 29) rfl)) (by decide) (by decide)) q323a q323c (g := (mkF m 165 #[.val (.int p1), .val (.int p2), .val (.int p3), .val (.int p4), .val (.int p5), .val (.int p6), .val (.int N_), .val (.int (0 : Int32)), .val (.int (p3 ^^^ (-1 : Int32))), .val (.int (p4 ^^^ (-1 : Int32))), .val (.ref b1), .val (.int (own_at (0 : Int32) p3 p4 p5 p6 (p3 ^^^ (-1 : Int32)) (p4 ^^^ (-1 : Int32)))), .val (.ref r18)] [(.ref r18)])) rfl (by rw [hml]; rfl) (Steps.refl _) (argsL := []) (rest := []) (lenOf pd_9 rfl) rfl (by show 2 * 0 + _ ≤ _; exact Nat.le_of_eq rfl) (hb hby at_165) (fun _ _ => ⟨rfl, e322, (by decide : 6 + 0 ≤ _), (by decide : 11 + 0 ≤ _)⟩)
            dsimp only [Pt.U, Pt.locs, Pt.cells, Pt.slots] at X323 l323 y323 z323 st323 hQ323
            subst l323 y323 z323
            obtain ⟨rfl, N323q, e323⟩ := hQ323
            have N324 := Fr.app N321 N323q
            refine Go.via (S' := T323.setTop (mkF m 168 #[.val (.int p1), .val (.int p2), .val (.int p3), .val (.int p4), .val (.int p5), .val (.int p6), .val (.int N_), .val (.int (0 : Int32)), .val (.int (p3 ^^^ (-1 : Int32))), .val (.int (p4 ^^^ (-1 : Int32))), .val (.ref b1), .val (.int (own_at (0 : Int32) p3 p4 p5 p6 (p3 ^^^ (-1 : Int32)) (p4 ^^^ (-1 : Int32)))), .val (.ref r18)] [(.int p3)])) (fun _ k => st323.trans k) ?_
            refine Go.via (S' := T323.setTop (mkF m 170 #[.val (.int p1), .val (.int p2), .val (.int p3), .val (.int p4), .val (.int p5), .val (.int p6), .val (.int N_), .val (.int (0 : Int32)), .val (.int (p3 ^^^ (-1 : Int32))), .val (.int (p4 ^^^ (-1 : Int32))), .val (.ref b1), .val (.int (own_at (0 : Int32) p3 p4 p5 p6 (p3 ^^^ (-1 : Int32)) (p4 ^^^ (-1 : Int32)))), .val (.ref r18)] [(.int (own_at (0 : Int32) p3 p4 p5 p6 (p3 ^^^ (-1 : Int32)) (p4 ^^^ (-1 : Int32)))), (.int p3)])) (fun _ k => XS.iload X323.here hx rfl (hb hby at_168) rfl k) ?_
            refine Go.via (S' := T323.setTop (mkF m 173 #[.val (.int p1), .val (.int p2), .val (.int p3), .val (.int p4), .val (.int p5), .val (.int p6), .val (.int N_), .val (.int (0 : Int32)), .val (.int (p3 ^^^ (-1 : Int32))), .val (.int (p4 ^^^ (-1 : Int32))), .val (.ref b1), .val (.int (own_at (0 : Int32) p3 p4 p5 p6 (p3 ^^^ (-1 : Int32)) (p4 ^^^ (-1 : Int32)))), .val (.ref r18)] [])) (fun _ k => XS.icmpNo X323.here hx rfl (hb hby at_170) rfl (teq (by simp [own_at])).2 k) ?_
            refine Go.via (S' := T323.setTop (mkF m 174 #[.val (.int p1), .val (.int p2), .val (.int p3), .val (.int p4), .val (.int p5), .val (.int p6), .val (.int N_), .val (.int (0 : Int32)), .val (.int (p3 ^^^ (-1 : Int32))), .val (.int (p4 ^^^ (-1 : Int32))), .val (.ref b1), .val (.int (own_at (0 : Int32) p3 p4 p5 p6 (p3 ^^^ (-1 : Int32)) (p4 ^^^ (-1 : Int32)))), .val (.ref r18)] [(.int (1 : Int32))])) (fun _ k => XS.iconst X323.here hx rfl (hb hby at_173) k) ?_
            refine Go.via (S' := T323.setTop (mkF m 178 #[.val (.int p1), .val (.int p2), .val (.int p3), .val (.int p4), .val (.int p5), .val (.int p6), .val (.int N_), .val (.int (0 : Int32)), .val (.int (p3 ^^^ (-1 : Int32))), .val (.int (p4 ^^^ (-1 : Int32))), .val (.ref b1), .val (.int (own_at (0 : Int32) p3 p4 p5 p6 (p3 ^^^ (-1 : Int32)) (p4 ^^^ (-1 : Int32)))), .val (.ref r18)] [(.int (1 : Int32))])) (fun _ k => XS.goto X323.here hx rfl (pc0 := 174) (pc' := 178) rfl (hb hby at_174) (by decide) (by decide) k) ?_
            exact Go.retB X323 hx (BodyLoose.notSynchronized Bd) Bd.returns (hb hby at_178) rfl (by rw [e323]; exact ⟨rfl, N324⟩) (by decide) (by decide)
          · obtain rfl : I_ = (1 : Int32) := Int32.toInt_inj.mp hi
            refine Go.via (S' := T126.setTop (mkF m 129 #[.val (.int p1), .val (.int p2), .val (.int p3), .val (.int p4), .val (.int p5), .val (.int p6), .val (.int N_), .val (.int (1 : Int32)), .val (.int (p3 ^^^ (-1 : Int32))), .val (.int (p4 ^^^ (-1 : Int32))), .val (.ref b1), .unset, .unset] [(.int (1 : Int32))])) (fun _ k => XS.iload X126.here hx rfl (hb hby at_127) rfl k) ?_
            refine Go.via (S' := T126.setTop (mkF m 130 #[.val (.int p1), .val (.int p2), .val (.int p3), .val (.int p4), .val (.int p5), .val (.int p6), .val (.int N_), .val (.int (1 : Int32)), .val (.int (p3 ^^^ (-1 : Int32))), .val (.int (p4 ^^^ (-1 : Int32))), .val (.ref b1), .unset, .unset] [(.int p3), (.int (1 : Int32))])) (fun _ k => XS.iloadN X126.here hx rfl (hb hby at_129) rfl k) ?_
            refine Go.via (S' := T126.setTop (mkF m 131 #[.val (.int p1), .val (.int p2), .val (.int p3), .val (.int p4), .val (.int p5), .val (.int p6), .val (.int N_), .val (.int (1 : Int32)), .val (.int (p3 ^^^ (-1 : Int32))), .val (.int (p4 ^^^ (-1 : Int32))), .val (.ref b1), .unset, .unset] [(.int p4), (.int p3), (.int (1 : Int32))])) (fun _ k => XS.iloadN X126.here hx rfl (hb hby at_130) rfl k) ?_
            refine Go.via (S' := T126.setTop (mkF m 133 #[.val (.int p1), .val (.int p2), .val (.int p3), .val (.int p4), .val (.int p5), .val (.int p6), .val (.int N_), .val (.int (1 : Int32)), .val (.int (p3 ^^^ (-1 : Int32))), .val (.int (p4 ^^^ (-1 : Int32))), .val (.ref b1), .unset, .unset] [(.int p5), (.int p4), (.int p3), (.int (1 : Int32))])) (fun _ k => XS.iload X126.here hx rfl (hb hby at_131) rfl k) ?_
            refine Go.via (S' := T126.setTop (mkF m 135 #[.val (.int p1), .val (.int p2), .val (.int p3), .val (.int p4), .val (.int p5), .val (.int p6), .val (.int N_), .val (.int (1 : Int32)), .val (.int (p3 ^^^ (-1 : Int32))), .val (.int (p4 ^^^ (-1 : Int32))), .val (.ref b1), .unset, .unset] [(.int p6), (.int p5), (.int p4), (.int p3), (.int (1 : Int32))])) (fun _ k => XS.iload X126.here hx rfl (hb hby at_133) rfl k) ?_
            refine Go.via (S' := T126.setTop (mkF m 137 #[.val (.int p1), .val (.int p2), .val (.int p3), .val (.int p4), .val (.int p5), .val (.int p6), .val (.int N_), .val (.int (1 : Int32)), .val (.int (p3 ^^^ (-1 : Int32))), .val (.int (p4 ^^^ (-1 : Int32))), .val (.ref b1), .unset, .unset] [(.int (p3 ^^^ (-1 : Int32))), (.int p6), (.int p5), (.int p4), (.int p3), (.int (1 : Int32))])) (fun _ k => XS.iload X126.here hx rfl (hb hby at_135) rfl k) ?_
            refine Go.via (S' := T126.setTop (mkF m 139 #[.val (.int p1), .val (.int p2), .val (.int p3), .val (.int p4), .val (.int p5), .val (.int p6), .val (.int N_), .val (.int (1 : Int32)), .val (.int (p3 ^^^ (-1 : Int32))), .val (.int (p4 ^^^ (-1 : Int32))), .val (.ref b1), .unset, .unset] [(.int (p4 ^^^ (-1 : Int32))), (.int (p3 ^^^ (-1 : Int32))), (.int p6), (.int p5), (.int p4), (.int p3), (.int (1 : Int32))])) (fun _ k => XS.iload X126.here hx rfl (hb hby at_137) rfl k) ?_
            obtain ⟨_, _, ⟨T325, L325, k325, n325⟩, -, X325, ⟨Lc325, hQ325, l325, y325, z325⟩, st325⟩ := Jvm.LawKit.callS X126 hx (y := (⟨"com/example/tidegraph/tidegraph/graph/ElementListGetPinLaw", "expectedAt", "(IIIIIII)I"⟩ : MethodName)) hown (mvT hZ (hw _ (List.mem_of_getElem? (i := 71) rfl))) (mvT hZ (hw _ (List.mem_of_getElem? (i := 72) rfl))) (mvT hZ (hw _ (List.mem_of_getElem? (i := 73) rfl))) (mvT hZ (hw _ (List.mem_of_getElem? (i := 74) rfl))) (by decide) (backOf (W := 0) (rm11 l Z a0 hw [] (1 : Int32) p3 p4 p5 p6 (p3 ^^^ (-1 : Int32)) (p4 ^^^ (-1 : Int32)) T126.heap n0 z141) hZ (hw _ (List.mem_of_getElem? (i := 74) rfl)) (hw _ (List.mem_of_getElem? (i := 73) rfl)) (by decide) (by decide)) (g := (mkF m 139 #[.val (.int p1), .val (.int p2), .val (.int p3), .val (.int p4), .val (.int p5), .val (.int p6), .val (.int N_), .val (.int (1 : Int32)), .val (.int (p3 ^^^ (-1 : Int32))), .val (.int (p4 ^^^ (-1 : Int32))), .val (.ref b1), .unset, .unset] [(.int (p4 ^^^ (-1 : Int32))), (.int (p3 ^^^ (-1 : Int32))), (.int p6), (.int p5), (.int p4), (.int p3), (.int (1 : Int32))])) rfl (by rw [hml]; rfl) (argsL := [(.int (1 : Int32)), (.int p3), (.int p4), (.int p5), (.int p6), (.int (p3 ^^^ (-1 : Int32))), (.int (p4 ^^^ (-1 : Int32)))]) (rest := []) (lenOf pd_7 rfl) rfl (by show 2 * 0 + _ ≤ _; exact Nat.le_of_eq rfl) (hb hby at_139) (fun _ _ => ⟨rfl, rfl, (by decide : 6 + 0 ≤ _), (by decide : 11 + 0 ≤ _)⟩)
            dsimp only [Pt.U, Pt.locs, Pt.cells, Pt.slots] at X325 l325 y325 z325 st325 hQ325
            subst l325 y325 z325
            obtain ⟨rfl, N325q, e325⟩ := hQ325
            have N326 := Fr.app N127 N325q
            refine Go.via (S' := T325.setTop (mkF m 142 #[.val (.int p1), .val (.int p2), .val (.int p3), .val (.int p4), .val (.int p5), .val (.int p6), .val (.int N_), .val (.int (1 : Int32)), .val (.int (p3 ^^^ (-1 : Int32))), .val (.int (p4 ^^^ (-1 : Int32))), .val (.ref b1), .unset, .unset] [(.int (own_at (1 : Int32) p3 p4 p5 p6 (p3 ^^^ (-1 : Int32)) (p4 ^^^ (-1 : Int32))))])) (fun _ k => st325 _ k) ?_
            refine Go.via (S' := T325.setTop (mkF m 144 #[.val (.int p1), .val (.int p2), .val (.int p3), .val (.int p4), .val (.int p5), .val (.int p6), .val (.int N_), .val (.int (1 : Int32)), .val (.int (p3 ^^^ (-1 : Int32))), .val (.int (p4 ^^^ (-1 : Int32))), .val (.ref b1), .val (.int (own_at (1 : Int32) p3 p4 p5 p6 (p3 ^^^ (-1 : Int32)) (p4 ^^^ (-1 : Int32)))), .unset] [])) (fun _ k => XS.istore X325.here hx rfl (hb hby at_142) rfl (l' := #[.val (.int p1), .val (.int p2), .val (.int p3), .val (.int p4), .val (.int p5), .val (.int p6), .val (.int N_), .val (.int (1 : Int32)), .val (.int (p3 ^^^ (-1 : Int32))), .val (.int (p4 ^^^ (-1 : Int32))), .val (.ref b1), .val (.int (own_at (1 : Int32) p3 p4 p5 p6 (p3 ^^^ (-1 : Int32)) (p4 ^^^ (-1 : Int32)))), .unset]) rfl k) ?_
            refine Go.via (S' := T325.setTop (mkF m 146 #[.val (.int p1), .val (.int p2), .val (.int p3), .val (.int p4), .val (.int p5), .val (.int p6), .val (.int N_), .val (.int (1 : Int32)), .val (.int (p3 ^^^ (-1 : Int32))), .val (.int (p4 ^^^ (-1 : Int32))), .val (.ref b1), .val (.int (own_at (1 : Int32) p3 p4 p5 p6 (p3 ^^^ (-1 : Int32)) (p4 ^^^ (-1 : Int32)))), .unset] [(.ref b1)])) (fun _ k => XS.aload X325.here hx rfl (hb hby at_144) rfl rfl k) ?_
            refine Go.via (S' := T325.setTop (mkF m 148 #[.val (.int p1), .val (.int p2), .val (.int p3), .val (.int p4), .val (.int p5), .val (.int p6), .val (.int N_), .val (.int (1 : Int32)), .val (.int (p3 ^^^ (-1 : Int32))), .val (.int (p4 ^^^ (-1 : Int32))), .val (.ref b1), .val (.int (own_at (1 : Int32) p3 p4 p5 p6 (p3 ^^^ (-1 : Int32)) (p4 ^^^ (-1 : Int32)))), .unset] [(.int (1 : Int32)), (.ref b1)])) (fun _ k => XS.iload X325.here hx rfl (hb hby at_146) rfl k) ?_
            obtain ⟨cq327, kq327, q327a, q327b, q327c⟩ := isOf hZ e325 f131
            obtain ⟨_, _, ⟨T327, L327, k327, n327⟩, -, X327, ⟨Lc327, hQ327, l327, y327, z327⟩, st327⟩ := X325.virtualBack hx (y := (⟨"com/example/tidegraph/tidegraph/graph/ElementList", "get", "(I)Ljava/lang/Object;"⟩ : MethodName)) (z := (⟨"com/example/tidegraph/tidegraph/graph/ElementList", "get", "(I)Ljava/lang/Object;"⟩ : MethodName)) hown (mvT hZ (hw _ (List.mem_of_getElem? (i := 75) rfl))) (mvT hZ (hw _ (List.mem_of_getElem? (i := 76) rfl))) (notFace_of_selects (args := #[]) (mvT hZ (hw _ (List.mem_of_getElem? (i := 78) rfl)))) (mvT hZ (hw _ (List.mem_of_getElem? (i := 78) rfl))) (mvT hZ (hw _ (List.mem_of_getElem? (i := 77) rfl))) (by decide) (backOf (W := 0) (rm12 l Z a0 hw [] b1 (1 : Int32) ar31 k231 (4 : Int32) [(.ref r18), (.ref r43), (.ref r72), (.ref r105)] (4 : Int32) r43 T126.heap n0 z141 Fe126 Fs126 Va126 (by decide) (by decide) rfl) hZ (hw _ (List.mem_of_getElem? (i := 79) rfl)) (hw _ (List.mem_of_getElem? (i := 3) rfl)) (by decide) (by decide)) q327a q327c (g := (mkF m 148 #[.val (.int p1), .val (.int p2), .val (.int p3), .val (.int p4), .val (.int p5), .val (.int p6), .val (.int N_), .val (.int (1 : Int32)), .val (.int (p3 ^^^ (-1 : Int32))), .val (.int (p4 ^^^ (-1 : Int32))), .val (.ref b1), .val (.int (own_at (1 : Int32) p3 p4 p5 p6 (p3 ^^^ (-1 : Int32)) (p4 ^^^ (-1 : Int32)))), .unset] [(.int (1 : Int32)), (.ref b1)])) rfl (by rw [hml]; rfl) (Steps.refl _) (argsL := [(.int (1 : Int32))]) (rest := []) (lenOf pd_8 rfl) rfl (by show 2 * 0 + _ ≤ _; exact Nat.le_of_eq rfl) (hb hby at_148) (fun _ _ => ⟨rfl, e325, (by decide : 6 + 0 ≤ _), (by decide : 11 + 0 ≤ _)⟩)
            dsimp only [Pt.U, Pt.locs, Pt.cells, Pt.slots] at X327 l327 y327 z327 st327 hQ327
            subst l327 y327 z327
            obtain ⟨rfl, N327q, e327⟩ := hQ327
            have N328 := Fr.app N326 N327q
            refine Go.via (S' := T327.setTop (mkF m 151 #[.val (.int p1), .val (.int p2), .val (.int p3), .val (.int p4), .val (.int p5), .val (.int p6), .val (.int N_), .val (.int (1 : Int32)), .val (.int (p3 ^^^ (-1 : Int32))), .val (.int (p4 ^^^ (-1 : Int32))), .val (.ref b1), .val (.int (own_at (1 : Int32) p3 p4 p5 p6 (p3 ^^^ (-1 : Int32)) (p4 ^^^ (-1 : Int32)))), .unset] [(.ref r43)])) (fun _ k => st327.trans k) ?_
            obtain ⟨T329, X329, e329, st329⟩ := castY X327 hx hZ hown (hw _ (List.mem_of_getElem? (i := 80) rfl)) e327 (Ins.self f135) (g := (mkF m 151 #[.val (.int p1), .val (.int p2), .val (.int p3), .val (.int p4), .val (.int p5), .val (.int p6), .val (.int N_), .val (.int (1 : Int32)), .val (.int (p3 ^^^ (-1 : Int32))), .val (.int (p4 ^^^ (-1 : Int32))), .val (.ref b1), .val (.int (own_at (1 : Int32) p3 p4 p5 p6 (p3 ^^^ (-1 : Int32)) (p4 ^^^ (-1 : Int32)))), .unset] [(.ref r43)])) rfl rfl (hb hby at_151)
            refine Go.via (S' := T329.setTop (mkF m 154 #[.val (.int p1), .val (.int p2), .val (.int p3), .val (.int p4), .val (.int p5), .val (.int p6), .val (.int N_), .val (.int (1 : Int32)), .val (.int (p3 ^^^ (-1 : Int32))), .val (.int (p4 ^^^ (-1 : Int32))), .val (.ref b1), .val (.int (own_at (1 : Int32) p3 p4 p5 p6 (p3 ^^^ (-1 : Int32)) (p4 ^^^ (-1 : Int32)))), .unset] [(.ref r43)])) (fun _ k => st329 _ k) ?_
            refine Go.via (S' := T329.setTop (mkF m 156 #[.val (.int p1), .val (.int p2), .val (.int p3), .val (.int p4), .val (.int p5), .val (.int p6), .val (.int N_), .val (.int (1 : Int32)), .val (.int (p3 ^^^ (-1 : Int32))), .val (.int (p4 ^^^ (-1 : Int32))), .val (.ref b1), .val (.int (own_at (1 : Int32) p3 p4 p5 p6 (p3 ^^^ (-1 : Int32)) (p4 ^^^ (-1 : Int32)))), .val (.ref r43)] [])) (fun _ k => XS.astore X329.here hx rfl (hb hby at_154) rfl rfl (l' := #[.val (.int p1), .val (.int p2), .val (.int p3), .val (.int p4), .val (.int p5), .val (.int p6), .val (.int N_), .val (.int (1 : Int32)), .val (.int (p3 ^^^ (-1 : Int32))), .val (.int (p4 ^^^ (-1 : Int32))), .val (.ref b1), .val (.int (own_at (1 : Int32) p3 p4 p5 p6 (p3 ^^^ (-1 : Int32)) (p4 ^^^ (-1 : Int32)))), .val (.ref r43)]) rfl k) ?_
            refine Go.via (S' := T329.setTop (mkF m 158 #[.val (.int p1), .val (.int p2), .val (.int p3), .val (.int p4), .val (.int p5), .val (.int p6), .val (.int N_), .val (.int (1 : Int32)), .val (.int (p3 ^^^ (-1 : Int32))), .val (.int (p4 ^^^ (-1 : Int32))), .val (.ref b1), .val (.int (own_at (1 : Int32) p3 p4 p5 p6 (p3 ^^^ (-1 : Int32)) (p4 ^^^ (-1 : Int32)))), .val (.ref r43)] [(.ref r43)])) (fun _ k => XS.aload X329.here hx rfl (hb hby at_156) rfl rfl k) ?_
            refine Go.via (S' := T329.setTop (mkF m 163 #[.val (.int p1), .val (.int p2), .val (.int p3), .val (.int p4), .val (.int p5), .val (.int p6), .val (.int N_), .val (.int (1 : Int32)), .val (.int (p3 ^^^ (-1 : Int32))), .val (.int (p4 ^^^ (-1 : Int32))), .val (.ref b1), .val (.int (own_at (1 : Int32) p3 p4 p5 p6 (p3 ^^^ (-1 : Int32)) (p4 ^^^ (-1 : Int32)))), .val (.ref r43)] [])) (fun _ k => XS.ifnonnullYes X329.here hx rfl (pc0 := 158) (pc' := 163) rfl (hb hby at_158) rfl (by decide) (by decide) k) ?_
            refine Go.via (S' := T329.setTop (mkF m 165 #[.val (.int p1), .val (.int p2), .val (.int p3), .val (.int p4), .val (.int p5), .val (.int p6), .val (.int N_), .val (.int (1 : Int32)), .val (.int (p3 ^^^ (-1 : Int32))), .val (.int (p4 ^^^ (-1 : Int32))), .val (.ref b1), .val (.int (own_at (1 : Int32) p3 p4 p5 p6 (p3 ^^^ (-1 : Int32)) (p4 ^^^ (-1 : Int32)))), .val (.ref r43)] [(.ref r43)])) (fun _ k => XS.aload X329.here hx rfl (hb hby at_163) rfl rfl k) ?_
            obtain ⟨cq330, kq330, q330a, q330b, q330c⟩ := isOf hZ e329 f135
            obtain ⟨_, _, ⟨T330, L330, k330, n330⟩, -, X330, ⟨Lc330, hQ330, l330, y330, z330⟩, st330⟩ := X329.virtualBack hx (y := (⟨"java/lang/Integer", "intValue", "()I"⟩ : MethodName)) (z := (⟨"java/lang/Integer", "intValue", "()I"⟩ : MethodName)) hown (mvT hZ (hw _ (List.mem_of_getElem? (i := 82) rfl))) (mvT hZ (hw _ (List.mem_of_getElem? (i := 83) rfl))) (notFace_of_selects (args := #[]) (mvT hZ (hw _ (List.mem_of_getElem? (i := 85) rfl)))) (mvT hZ (hw _ (List.mem_of_getElem? (i := 85) rfl))) (mvT hZ (hw _ (List.mem_of_getElem? (i := 84) rfl))) (by decide) (backOf (W := 0) (rm13 l Z a0 hw [] r43 p4 T126.heap n0 z141 f136) hZ (hw _ (List.mem_of_getElem? (i := 86) rfl)) (hw _ (List.mem_of_getElem? (i := 29) rfl)) (by decide) (by decide)) q330a q330c (g := (mkF m 165 #[.val (.int p1), .val (.int p2), .val (.int p3), .val (.int p4), .val (.int p5), .val (.int p6), .val (.int N_), .val (.int (1 : Int32)), .val (.int (p3 ^^^ (-1 : Int32))), .val (.int (p4 ^^^ (-1 : Int32))), .val (.ref b1), .val (.int (own_at (1 : Int32) p3 p4 p5 p6 (p3 ^^^ (-1 : Int32)) (p4 ^^^ (-1 : Int32)))), .val (.ref r43)] [(.ref r43)])) rfl (by rw [hml]; rfl) (Steps.refl _) (argsL := []) (rest := []) (lenOf pd_9 rfl) rfl (by show 2 * 0 + _ ≤ _; exact Nat.le_of_eq rfl) (hb hby at_165) (fun _ _ => ⟨rfl, e329, (by decide : 6 + 0 ≤ _), (by decide : 11 + 0 ≤ _)⟩)
            dsimp only [Pt.U, Pt.locs, Pt.cells, Pt.slots] at X330 l330 y330 z330 st330 hQ330
            subst l330 y330 z330
            obtain ⟨rfl, N330q, e330⟩ := hQ330
            have N331 := Fr.app N328 N330q
            refine Go.via (S' := T330.setTop (mkF m 168 #[.val (.int p1), .val (.int p2), .val (.int p3), .val (.int p4), .val (.int p5), .val (.int p6), .val (.int N_), .val (.int (1 : Int32)), .val (.int (p3 ^^^ (-1 : Int32))), .val (.int (p4 ^^^ (-1 : Int32))), .val (.ref b1), .val (.int (own_at (1 : Int32) p3 p4 p5 p6 (p3 ^^^ (-1 : Int32)) (p4 ^^^ (-1 : Int32)))), .val (.ref r43)] [(.int p4)])) (fun _ k => st330.trans k) ?_
            refine Go.via (S' := T330.setTop (mkF m 170 #[.val (.int p1), .val (.int p2), .val (.int p3), .val (.int p4), .val (.int p5), .val (.int p6), .val (.int N_), .val (.int (1 : Int32)), .val (.int (p3 ^^^ (-1 : Int32))), .val (.int (p4 ^^^ (-1 : Int32))), .val (.ref b1), .val (.int (own_at (1 : Int32) p3 p4 p5 p6 (p3 ^^^ (-1 : Int32)) (p4 ^^^ (-1 : Int32)))), .val (.ref r43)] [(.int (own_at (1 : Int32) p3 p4 p5 p6 (p3 ^^^ (-1 : Int32)) (p4 ^^^ (-1 : Int32)))), (.int p4)])) (fun _ k => XS.iload X330.here hx rfl (hb hby at_168) rfl k) ?_
            refine Go.via (S' := T330.setTop (mkF m 173 #[.val (.int p1), .val (.int p2), .val (.int p3), .val (.int p4), .val (.int p5), .val (.int p6), .val (.int N_), .val (.int (1 : Int32)), .val (.int (p3 ^^^ (-1 : Int32))), .val (.int (p4 ^^^ (-1 : Int32))), .val (.ref b1), .val (.int (own_at (1 : Int32) p3 p4 p5 p6 (p3 ^^^ (-1 : Int32)) (p4 ^^^ (-1 : Int32)))), .val (.ref r43)] [])) (fun _ k => XS.icmpNo X330.here hx rfl (hb hby at_170) rfl (teq (by simp [own_at])).2 k) ?_
            refine Go.via (S' := T330.setTop (mkF m 174 #[.val (.int p1), .val (.int p2), .val (.int p3), .val (.int p4), .val (.int p5), .val (.int p6), .val (.int N_), .val (.int (1 : Int32)), .val (.int (p3 ^^^ (-1 : Int32))), .val (.int (p4 ^^^ (-1 : Int32))), .val (.ref b1), .val (.int (own_at (1 : Int32) p3 p4 p5 p6 (p3 ^^^ (-1 : Int32)) (p4 ^^^ (-1 : Int32)))), .val (.ref r43)] [(.int (1 : Int32))])) (fun _ k => XS.iconst X330.here hx rfl (hb hby at_173) k) ?_
            refine Go.via (S' := T330.setTop (mkF m 178 #[.val (.int p1), .val (.int p2), .val (.int p3), .val (.int p4), .val (.int p5), .val (.int p6), .val (.int N_), .val (.int (1 : Int32)), .val (.int (p3 ^^^ (-1 : Int32))), .val (.int (p4 ^^^ (-1 : Int32))), .val (.ref b1), .val (.int (own_at (1 : Int32) p3 p4 p5 p6 (p3 ^^^ (-1 : Int32)) (p4 ^^^ (-1 : Int32)))), .val (.ref r43)] [(.int (1 : Int32))])) (fun _ k => XS.goto X330.here hx rfl (pc0 := 174) (pc' := 178) rfl (hb hby at_174) (by decide) (by decide) k) ?_
            exact Go.retB X330 hx (BodyLoose.notSynchronized Bd) Bd.returns (hb hby at_178) rfl (by rw [e330]; exact ⟨rfl, N331⟩) (by decide) (by decide)
          · obtain rfl : I_ = (2 : Int32) := Int32.toInt_inj.mp hi
            refine Go.via (S' := T126.setTop (mkF m 129 #[.val (.int p1), .val (.int p2), .val (.int p3), .val (.int p4), .val (.int p5), .val (.int p6), .val (.int N_), .val (.int (2 : Int32)), .val (.int (p3 ^^^ (-1 : Int32))), .val (.int (p4 ^^^ (-1 : Int32))), .val (.ref b1), .unset, .unset] [(.int (2 : Int32))])) (fun _ k => XS.iload X126.here hx rfl (hb hby at_127) rfl k) ?_
            refine Go.via (S' := T126.setTop (mkF m 130 #[.val (.int p1), .val (.int p2), .val (.int p3), .val (.int p4), .val (.int p5), .val (.int p6), .val (.int N_), .val (.int (2 : Int32)), .val (.int (p3 ^^^ (-1 : Int32))), .val (.int (p4 ^^^ (-1 : Int32))), .val (.ref b1), .unset, .unset] [(.int p3), (.int (2 : Int32))])) (fun _ k => XS.iloadN X126.here hx rfl (hb hby at_129) rfl k) ?_
            refine Go.via (S' := T126.setTop (mkF m 131 #[.val (.int p1), .val (.int p2), .val (.int p3), .val (.int p4), .val (.int p5), .val (.int p6), .val (.int N_), .val (.int (2 : Int32)), .val (.int (p3 ^^^ (-1 : Int32))), .val (.int (p4 ^^^ (-1 : Int32))), .val (.ref b1), .unset, .unset] [(.int p4), (.int p3), (.int (2 : Int32))])) (fun _ k => XS.iloadN X126.here hx rfl (hb hby at_130) rfl k) ?_
            refine Go.via (S' := T126.setTop (mkF m 133 #[.val (.int p1), .val (.int p2), .val (.int p3), .val (.int p4), .val (.int p5), .val (.int p6), .val (.int N_), .val (.int (2 : Int32)), .val (.int (p3 ^^^ (-1 : Int32))), .val (.int (p4 ^^^ (-1 : Int32))), .val (.ref b1), .unset, .unset] [(.int p5), (.int p4), (.int p3), (.int (2 : Int32))])) (fun _ k => XS.iload X126.here hx rfl (hb hby at_131) rfl k) ?_
            refine Go.via (S' := T126.setTop (mkF m 135 #[.val (.int p1), .val (.int p2), .val (.int p3), .val (.int p4), .val (.int p5), .val (.int p6), .val (.int N_), .val (.int (2 : Int32)), .val (.int (p3 ^^^ (-1 : Int32))), .val (.int (p4 ^^^ (-1 : Int32))), .val (.ref b1), .unset, .unset] [(.int p6), (.int p5), (.int p4), (.int p3), (.int (2 : Int32))])) (fun _ k => XS.iload X126.here hx rfl (hb hby at_133) rfl k) ?_
            refine Go.via (S' := T126.setTop (mkF m 137 #[.val (.int p1), .val (.int p2), .val (.int p3), .val (.int p4), .val (.int p5), .val (.int p6), .val (.int N_), .val (.int (2 : Int32)), .val (.int (p3 ^^^ (-1 : Int32))), .val (.int (p4 ^^^ (-1 : Int32))), .val (.ref b1), .unset, .unset] [(.int (p3 ^^^ (-1 : Int32))), (.int p6), (.int p5), (.int p4), (.int p3), (.int (2 : Int32))])) (fun _ k => XS.iload X126.here hx rfl (hb hby at_135) rfl k) ?_
            refine Go.via (S' := T126.setTop (mkF m 139 #[.val (.int p1), .val (.int p2), .val (.int p3), .val (.int p4), .val (.int p5), .val (.int p6), .val (.int N_), .val (.int (2 : Int32)), .val (.int (p3 ^^^ (-1 : Int32))), .val (.int (p4 ^^^ (-1 : Int32))), .val (.ref b1), .unset, .unset] [(.int (p4 ^^^ (-1 : Int32))), (.int (p3 ^^^ (-1 : Int32))), (.int p6), (.int p5), (.int p4), (.int p3), (.int (2 : Int32))])) (fun _ k => XS.iload X126.here hx rfl (hb hby at_137) rfl k) ?_
            obtain ⟨_, _, ⟨T332, L332, k332, n332⟩, -, X332, ⟨Lc332, hQ332, l332, y332, z332⟩, st332⟩ := Jvm.LawKit.callS X126 hx (y := (⟨"com/example/tidegraph/tidegraph/graph/ElementListGetPinLaw", "expectedAt", "(IIIIIII)I"⟩ : MethodName)) hown (mvT hZ (hw _ (List.mem_of_getElem? (i := 71) rfl))) (mvT hZ (hw _ (List.mem_of_getElem? (i := 72) rfl))) (mvT hZ (hw _ (List.mem_of_getElem? (i := 73) rfl))) (mvT hZ (hw _ (List.mem_of_getElem? (i := 74) rfl))) (by decide) (backOf (W := 0) (rm11 l Z a0 hw [] (2 : Int32) p3 p4 p5 p6 (p3 ^^^ (-1 : Int32)) (p4 ^^^ (-1 : Int32)) T126.heap n0 z141) hZ (hw _ (List.mem_of_getElem? (i := 74) rfl)) (hw _ (List.mem_of_getElem? (i := 73) rfl)) (by decide) (by decide)) (g := (mkF m 139 #[.val (.int p1), .val (.int p2), .val (.int p3), .val (.int p4), .val (.int p5), .val (.int p6), .val (.int N_), .val (.int (2 : Int32)), .val (.int (p3 ^^^ (-1 : Int32))), .val (.int (p4 ^^^ (-1 : Int32))), .val (.ref b1), .unset, .unset] [(.int (p4 ^^^ (-1 : Int32))), (.int (p3 ^^^ (-1 : Int32))), (.int p6), (.int p5), (.int p4), (.int p3), (.int (2 : Int32))])) rfl (by rw [hml]; rfl) (argsL := [(.int (2 : Int32)), (.int p3), (.int p4), (.int p5), (.int p6), (.int (p3 ^^^ (-1 : Int32))), (.int (p4 ^^^ (-1 : Int32)))]) (rest := []) (lenOf pd_7 rfl) rfl (by show 2 * 0 + _ ≤ _; exact Nat.le_of_eq rfl) (hb hby at_139) (fun _ _ => ⟨rfl, rfl, (by decide : 6 + 0 ≤ _), (by decide : 11 + 0 ≤ _)⟩)
            dsimp only [Pt.U, Pt.locs, Pt.cells, Pt.slots] at X332 l332 y332 z332 st332 hQ332
            subst l332 y332 z332
            obtain ⟨rfl, N332q, e332⟩ := hQ332
            have N333 := Fr.app N127 N332q
            refine Go.via (S' := T332.setTop (mkF m 142 #[.val (.int p1), .val (.int p2), .val (.int p3), .val (.int p4), .val (.int p5), .val (.int p6), .val (.int N_), .val (.int (2 : Int32)), .val (.int (p3 ^^^ (-1 : Int32))), .val (.int (p4 ^^^ (-1 : Int32))), .val (.ref b1), .unset, .unset] [(.int (own_at (2 : Int32) p3 p4 p5 p6 (p3 ^^^ (-1 : Int32)) (p4 ^^^ (-1 : Int32))))])) (fun _ k => st332 _ k) ?_
            refine Go.via (S' := T332.setTop (mkF m 144 #[.val (.int p1), .val (.int p2), .val (.int p3), .val (.int p4), .val (.int p5), .val (.int p6), .val (.int N_), .val (.int (2 : Int32)), .val (.int (p3 ^^^ (-1 : Int32))), .val (.int (p4 ^^^ (-1 : Int32))), .val (.ref b1), .val (.int (own_at (2 : Int32) p3 p4 p5 p6 (p3 ^^^ (-1 : Int32)) (p4 ^^^ (-1 : Int32)))), .unset] [])) (fun _ k => XS.istore X332.here hx rfl (hb hby at_142) rfl (l' := #[.val (.int p1), .val (.int p2), .val (.int p3), .val (.int p4), .val (.int p5), .val (.int p6), .val (.int N_), .val (.int (2 : Int32)), .val (.int (p3 ^^^ (-1 : Int32))), .val (.int (p4 ^^^ (-1 : Int32))), .val (.ref b1), .val (.int (own_at (2 : Int32) p3 p4 p5 p6 (p3 ^^^ (-1 : Int32)) (p4 ^^^ (-1 : Int32)))), .unset]) rfl k) ?_
            refine Go.via (S' := T332.setTop (mkF m 146 #[.val (.int p1), .val (.int p2), .val (.int p3), .val (.int p4), .val (.int p5), .val (.int p6), .val (.int N_), .val (.int (2 : Int32)), .val (.int (p3 ^^^ (-1 : Int32))), .val (.int (p4 ^^^ (-1 : Int32))), .val (.ref b1), .val (.int (own_at (2 : Int32) p3 p4 p5 p6 (p3 ^^^ (-1 : Int32)) (p4 ^^^ (-1 : Int32)))), .unset] [(.ref b1)])) (fun _ k => XS.aload X332.here hx rfl (hb hby at_144) rfl rfl k) ?_
            refine Go.via (S' := T332.setTop (mkF m 148 #[.val (.int p1), .val (.int p2), .val (.int p3), .val (.int p4), .val (.int p5), .val (.int p6), .val (.int N_), .val (.int (2 : Int32)), .val (.int (p3 ^^^ (-1 : Int32))), .val (.int (p4 ^^^ (-1 : Int32))), .val (.ref b1), .val (.int (own_at (2 : Int32) p3 p4 p5 p6 (p3 ^^^ (-1 : Int32)) (p4 ^^^ (-1 : Int32)))), .unset] [(.int (2 : Int32)), (.ref b1)])) (fun _ k => XS.iload X332.here hx rfl (hb hby at_146) rfl k) ?_
            obtain ⟨cq334, kq334, q334a, q334b, q334c⟩ := isOf hZ e332 f131
            obtain ⟨_, _, ⟨T334, L334, k334, n334⟩, -, X334, ⟨Lc334, hQ334, l334, y334, z334⟩, st334⟩ := X332.virtualBack hx (y := (⟨"com/example/tidegraph/tidegraph/graph/ElementList", "get", "(I)Ljava/lang/Object;"⟩ : MethodName)) (z := (⟨"com/example/tidegraph/tidegraph/graph/ElementList", "get", "(I)Ljava/lang/Object;"⟩ : MethodName)) hown (mvT hZ (hw _ (List.mem_of_getElem? (i := 75) rfl))) (mvT hZ (hw _ (List.mem_of_getElem? (i := 76) rfl))) (notFace_of_selects (args := #[]) (mvT hZ (hw _ (List.mem_of_getElem? (i := 78) rfl)))) (mvT hZ (hw _ (List.mem_of_getElem? (i := 78) rfl))) (mvT hZ (hw _ (List.mem_of_getElem? (i := 77) rfl))) (by decide) (backOf (W := 0) (rm12 l Z a0 hw [] b1 (2 : Int32) ar31 k231 (4 : Int32) [(.ref r18), (.ref r43), (.ref r72), (.ref r105)] (4 : Int32) r72 T126.heap n0 z141 Fe126 Fs126 Va126 (by decide) (by decide) rfl) hZ (hw _ (List.mem_of_getElem? (i := 79) rfl)) (hw _ (List.mem_of_getElem? (i := 3) rfl)) (by decide) (by decide)) q334a q334c (g := (mkF m 148 #[.val (.int p1), .val (.int p2), .val (.int p3), .val (.int p4), .val (.int p5), .val (.int p6), .val (.int N_), .val (.int (2 : Int32)), .val (.int (p3 ^^^ (-1 : Int32))), .val (.int (p4 ^^^ (-1 : Int32))), .val (.ref b1), .val (.int (own_at (2 : Int32) p3 p4 p5 p6 (p3 ^^^ (-1 : Int32)) (p4 ^^^ (-1 : Int32)))), .unset] [(.int (2 : Int32)), (.ref b1)])) rfl (by rw [hml]; rfl) (Steps.refl _) (argsL := [(.int (2 : Int32))]) (rest := []) (lenOf pd_8 rfl) rfl (by show 2 * 0 + _ ≤ _; exact Nat.le_of_eq rfl) (hb hby at_148) (fun _ _ => ⟨rfl, e332, (by decide : 6 + 0 ≤ _), (by decide : 11 + 0 ≤ _)⟩)
            dsimp only [Pt.U, Pt.locs, Pt.cells, Pt.slots] at X334 l334 y334 z334 st334 hQ334
            subst l334 y334 z334
            obtain ⟨rfl, N334q, e334⟩ := hQ334
            have N335 := Fr.app N333 N334q
            refine Go.via (S' := T334.setTop (mkF m 151 #[.val (.int p1), .val (.int p2), .val (.int p3), .val (.int p4), .val (.int p5), .val (.int p6), .val (.int N_), .val (.int (2 : Int32)), .val (.int (p3 ^^^ (-1 : Int32))), .val (.int (p4 ^^^ (-1 : Int32))), .val (.ref b1), .val (.int (own_at (2 : Int32) p3 p4 p5 p6 (p3 ^^^ (-1 : Int32)) (p4 ^^^ (-1 : Int32)))), .unset] [(.ref r72)])) (fun _ k => st334.trans k) ?_
            obtain ⟨T336, X336, e336, st336⟩ := castY X334 hx hZ hown (hw _ (List.mem_of_getElem? (i := 80) rfl)) e334 (Ins.self f137) (g := (mkF m 151 #[.val (.int p1), .val (.int p2), .val (.int p3), .val (.int p4), .val (.int p5), .val (.int p6), .val (.int N_), .val (.int (2 : Int32)), .val (.int (p3 ^^^ (-1 : Int32))), .val (.int (p4 ^^^ (-1 : Int32))), .val (.ref b1), .val (.int (own_at (2 : Int32) p3 p4 p5 p6 (p3 ^^^ (-1 : Int32)) (p4 ^^^ (-1 : Int32)))), .unset] [(.ref r72)])) rfl rfl (hb hby at_151)
            refine Go.via (S' := T336.setTop (mkF m 154 #[.val (.int p1), .val (.int p2), .val (.int p3), .val (.int p4), .val (.int p5), .val (.int p6), .val (.int N_), .val (.int (2 : Int32)), .val (.int (p3 ^^^ (-1 : Int32))), .val (.int (p4 ^^^ (-1 : Int32))), .val (.ref b1), .val (.int (own_at (2 : Int32) p3 p4 p5 p6 (p3 ^^^ (-1 : Int32)) (p4 ^^^ (-1 : Int32)))), .unset] [(.ref r72)])) (fun _ k => st336 _ k) ?_
            refine Go.via (S' := T336.setTop (mkF m 156 #[.val (.int p1), .val (.int p2), .val (.int p3), .val (.int p4), .val (.int p5), .val (.int p6), .val (.int N_), .val (.int (2 : Int32)), .val (.int (p3 ^^^ (-1 : Int32))), .val (.int (p4 ^^^ (-1 : Int32))), .val (.ref b1), .val (.int (own_at (2 : Int32) p3 p4 p5 p6 (p3 ^^^ (-1 : Int32)) (p4 ^^^ (-1 : Int32)))), .val (.ref r72)] [])) (fun _ k => XS.astore X336.here hx rfl (hb hby at_154) rfl rfl (l' := #[.val (.int p1), .val (.int p2), .val (.int p3), .val (.int p4), .val (.int p5), .val (.int p6), .val (.int N_), .val (.int (2 : Int32)), .val (.int (p3 ^^^ (-1 : Int32))), .val (.int (p4 ^^^ (-1 : Int32))), .val (.ref b1), .val (.int (own_at (2 : Int32) p3 p4 p5 p6 (p3 ^^^ (-1 : Int32)) (p4 ^^^ (-1 : Int32)))), .val (.ref r72)]) rfl k) ?_
            refine Go.via (S' := T336.setTop (mkF m 158 #[.val (.int p1), .val (.int p2), .val (.int p3), .val (.int p4), .val (.int p5), .val (.int p6), .val (.int N_), .val (.int (2 : Int32)), .val (.int (p3 ^^^ (-1 : Int32))), .val (.int (p4 ^^^ (-1 : Int32))), .val (.ref b1), .val (.int (own_at (2 : Int32) p3 p4 p5 p6 (p3 ^^^ (-1 : Int32)) (p4 ^^^ (-1 : Int32)))), .val (.ref r72)] [(.ref r72)])) (fun _ k => XS.aload X336.here hx rfl (hb hby at_156) rfl rfl k) ?_
            refine Go.via (S' := T336.setTop (mkF m 163 #[.val (.int p1), .val (.int p2), .val (.int p3), .val (.int p4), .val (.int p5), .val (.int p6), .val (.int N_), .val (.int (2 : Int32)), .val (.int (p3 ^^^ (-1 : Int32))), .val (.int (p4 ^^^ (-1 : Int32))), .val (.ref b1), .val (.int (own_at (2 : Int32) p3 p4 p5 p6 (p3 ^^^ (-1 : Int32)) (p4 ^^^ (-1 : Int32)))), .val (.ref r72)] [])) (fun _ k => XS.ifnonnullYes X336.here hx rfl (pc0 := 158) (pc' := 163) rfl (hb hby at_158) rfl (by decide) (by decide) k) ?_
            refine Go.via (S' := T336.setTop (mkF m 165 #[.val (.int p1), .val (.int p2), .val (.int p3), .val (.int p4), .val (.int p5), .val (.int p6), .val (.int N_), .val (.int (2 : Int32)), .val (.int (p3 ^^^ (-1 : Int32))), .val (.int (p4 ^^^ (-1 : Int32))), .val (.ref b1), .val (.int (own_at (2 : Int32) p3 p4 p5 p6 (p3 ^^^ (-1 : Int32)) (p4 ^^^ (-1 : Int32)))), .val (.ref r72)] [(.ref r72)])) (fun _ k => XS.aload X336.here hx rfl (hb hby at_163) rfl rfl k) ?_
            obtain ⟨cq337, kq337, q337a, q337b, q337c⟩ := isOf hZ e336 f137
            obtain ⟨_, _, ⟨T337, L337, k337, n337⟩, -, X337, ⟨Lc337, hQ337, l337, y337, z337⟩, st337⟩ := X336.virtualBack hx (y := (⟨"java/lang/Integer", "intValue", "()I"⟩ : MethodName)) (z := (⟨"java/lang/Integer", "intValue", "()I"⟩ : MethodName)) hown (mvT hZ (hw _ (List.mem_of_getElem? (i := 82) rfl))) (mvT hZ (hw _ (List.mem_of_getElem? (i := 83) rfl))) (notFace_of_selects (args := #[]) (mvT hZ (hw _ (List.mem_of_getElem? (i := 85) rfl)))) (mvT hZ (hw _ (List.mem_of_getElem? (i := 85) rfl))) (mvT hZ (hw _ (List.mem_of_getElem? (i := 84) rfl))) (by decide) (backOf (W := 0) (rm13 l Z a0 hw [] r72 p5 T126.heap n0 z141 f138) hZ (hw _ (List.mem_of_getElem? (i := 86) rfl)) (hw _ (List.mem_of_getElem? (i := 29) rfl)) (by decide) (by decide)) q337a q337c (g := (mkF m 165 #[.val (.int p1), .val (.int p2), .val (.int p3), .val (.int p4), .val (.int p5), .val (.int p6), .val (.int N_), .val (.int (2 : Int32)), .val (.int (p3 ^^^ (-1 : Int32))), .val (.int (p4 ^^^ (-1 : Int32))), .val (.ref b1), .val (.int (own_at (2 : Int32) p3 p4 p5 p6 (p3 ^^^ (-1 : Int32)) (p4 ^^^ (-1 : Int32)))), .val (.ref r72)] [(.ref r72)])) rfl (by rw [hml]; rfl) (Steps.refl _) (argsL := []) (rest := []) (lenOf pd_9 rfl) rfl (by show 2 * 0 + _ ≤ _; exact Nat.le_of_eq rfl) (hb hby at_165) (fun _ _ => ⟨rfl, e336, (by decide : 6 + 0 ≤ _), (by decide : 11 + 0 ≤ _)⟩)
            dsimp only [Pt.U, Pt.locs, Pt.cells, Pt.slots] at X337 l337 y337 z337 st337 hQ337
            subst l337 y337 z337
            obtain ⟨rfl, N337q, e337⟩ := hQ337
            have N338 := Fr.app N335 N337q
            refine Go.via (S' := T337.setTop (mkF m 168 #[.val (.int p1), .val (.int p2), .val (.int p3), .val (.int p4), .val (.int p5), .val (.int p6), .val (.int N_), .val (.int (2 : Int32)), .val (.int (p3 ^^^ (-1 : Int32))), .val (.int (p4 ^^^ (-1 : Int32))), .val (.ref b1), .val (.int (own_at (2 : Int32) p3 p4 p5 p6 (p3 ^^^ (-1 : Int32)) (p4 ^^^ (-1 : Int32)))), .val (.ref r72)] [(.int p5)])) (fun _ k => st337.trans k) ?_
            refine Go.via (S' := T337.setTop (mkF m 170 #[.val (.int p1), .val (.int p2), .val (.int p3), .val (.int p4), .val (.int p5), .val (.int p6), .val (.int N_), .val (.int (2 : Int32)), .val (.int (p3 ^^^ (-1 : Int32))), .val (.int (p4 ^^^ (-1 : Int32))), .val (.ref b1), .val (.int (own_at (2 : Int32) p3 p4 p5 p6 (p3 ^^^ (-1 : Int32)) (p4 ^^^ (-1 : Int32)))), .val (.ref r72)] [(.int (own_at (2 : Int32) p3 p4 p5 p6 (p3 ^^^ (-1 : Int32)) (p4 ^^^ (-1 : Int32)))), (.int p5)])) (fun _ k => XS.iload X337.here hx rfl (hb hby at_168) rfl k) ?_
            refine Go.via (S' := T337.setTop (mkF m 173 #[.val (.int p1), .val (.int p2), .val (.int p3), .val (.int p4), .val (.int p5), .val (.int p6), .val (.int N_), .val (.int (2 : Int32)), .val (.int (p3 ^^^ (-1 : Int32))), .val (.int (p4 ^^^ (-1 : Int32))), .val (.ref b1), .val (.int (own_at (2 : Int32) p3 p4 p5 p6 (p3 ^^^ (-1 : Int32)) (p4 ^^^ (-1 : Int32)))), .val (.ref r72)] [])) (fun _ k => XS.icmpNo X337.here hx rfl (hb hby at_170) rfl (teq (by simp [own_at])).2 k) ?_
            refine Go.via (S' := T337.setTop (mkF m 174 #[.val (.int p1), .val (.int p2), .val (.int p3), .val (.int p4), .val (.int p5), .val (.int p6), .val (.int N_), .val (.int (2 : Int32)), .val (.int (p3 ^^^ (-1 : Int32))), .val (.int (p4 ^^^ (-1 : Int32))), .val (.ref b1), .val (.int (own_at (2 : Int32) p3 p4 p5 p6 (p3 ^^^ (-1 : Int32)) (p4 ^^^ (-1 : Int32)))), .val (.ref r72)] [(.int (1 : Int32))])) (fun _ k => XS.iconst X337.here hx rfl (hb hby at_173) k) ?_
            refine Go.via (S' := T337.setTop (mkF m 178 #[.val (.int p1), .val (.int p2), .val (.int p3), .val (.int p4), .val (.int p5), .val (.int p6), .val (.int N_), .val (.int (2 : Int32)), .val (.int (p3 ^^^ (-1 : Int32))), .val (.int (p4 ^^^ (-1 : Int32))), .val (.ref b1), .val (.int (own_at (2 : Int32) p3 p4 p5 p6 (p3 ^^^ (-1 : Int32)) (p4 ^^^ (-1 : Int32)))), .val (.ref r72)] [(.int (1 : Int32))])) (fun _ k => XS.goto X337.here hx rfl (pc0 := 174) (pc' := 178) rfl (hb hby at_174) (by decide) (by decide) k) ?_
            exact Go.retB X337 hx (BodyLoose.notSynchronized Bd) Bd.returns (hb hby at_178) rfl (by rw [e337]; exact ⟨rfl, N338⟩) (by decide) (by decide)
          · obtain rfl : I_ = (3 : Int32) := Int32.toInt_inj.mp hi
            refine Go.via (S' := T126.setTop (mkF m 129 #[.val (.int p1), .val (.int p2), .val (.int p3), .val (.int p4), .val (.int p5), .val (.int p6), .val (.int N_), .val (.int (3 : Int32)), .val (.int (p3 ^^^ (-1 : Int32))), .val (.int (p4 ^^^ (-1 : Int32))), .val (.ref b1), .unset, .unset] [(.int (3 : Int32))])) (fun _ k => XS.iload X126.here hx rfl (hb hby at_127) rfl k) ?_
            refine Go.via (S' := T126.setTop (mkF m 130 #[.val (.int p1), .val (.int p2), .val (.int p3), .val (.int p4), .val (.int p5), .val (.int p6), .val (.int N_), .val (.int (3 : Int32)), .val (.int (p3 ^^^ (-1 : Int32))), .val (.int (p4 ^^^ (-1 : Int32))), .val (.ref b1), .unset, .unset] [(.int p3), (.int (3 : Int32))])) (fun _ k => XS.iloadN X126.here hx rfl (hb hby at_129) rfl k) ?_
            refine Go.via (S' := T126.setTop (mkF m 131 #[.val (.int p1), .val (.int p2), .val (.int p3), .val (.int p4), .val (.int p5), .val (.int p6), .val (.int N_), .val (.int (3 : Int32)), .val (.int (p3 ^^^ (-1 : Int32))), .val (.int (p4 ^^^ (-1 : Int32))), .val (.ref b1), .unset, .unset] [(.int p4), (.int p3), (.int (3 : Int32))])) (fun _ k => XS.iloadN X126.here hx rfl (hb hby at_130) rfl k) ?_
            refine Go.via (S' := T126.setTop (mkF m 133 #[.val (.int p1), .val (.int p2), .val (.int p3), .val (.int p4), .val (.int p5), .val (.int p6), .val (.int N_), .val (.int (3 : Int32)), .val (.int (p3 ^^^ (-1 : Int32))), .val (.int (p4 ^^^ (-1 : Int32))), .val (.ref b1), .unset, .unset] [(.int p5), (.int p4), (.int p3), (.int (3 : Int32))])) (fun _ k => XS.iload X126.here hx rfl (hb hby at_131) rfl k) ?_
            refine Go.via (S' := T126.setTop (mkF m 135 #[.val (.int p1), .val (.int p2), .val (.int p3), .val (.int p4), .val (.int p5), .val (.int p6), .val (.int N_), .val (.int (3 : Int32)), .val (.int (p3 ^^^ (-1 : Int32))), .val (.int (p4 ^^^ (-1 : Int32))), .val (.ref b1), .unset, .unset] [(.int p6), (.int p5), (.int p4), (.int p3), (.int (3 : Int32))])) (fun _ k => XS.iload X126.here hx rfl (hb hby at_133) rfl k) ?_
            refine Go.via (S' := T126.setTop (mkF m 137 #[.val (.int p1), .val (.int p2), .val (.int p3), .val (.int p4), .val (.int p5), .val (.int p6), .val (.int N_), .val (.int (3 : Int32)), .val (.int (p3 ^^^ (-1 : Int32))), .val (.int (p4 ^^^ (-1 : Int32))), .val (.ref b1), .unset, .unset] [(.int (p3 ^^^ (-1 : Int32))), (.int p6), (.int p5), (.int p4), (.int p3), (.int (3 : Int32))])) (fun _ k => XS.iload X126.here hx rfl (hb hby at_135) rfl k) ?_
            refine Go.via (S' := T126.setTop (mkF m 139 #[.val (.int p1), .val (.int p2), .val (.int p3), .val (.int p4), .val (.int p5), .val (.int p6), .val (.int N_), .val (.int (3 : Int32)), .val (.int (p3 ^^^ (-1 : Int32))), .val (.int (p4 ^^^ (-1 : Int32))), .val (.ref b1), .unset, .unset] [(.int (p4 ^^^ (-1 : Int32))), (.int (p3 ^^^ (-1 : Int32))), (.int p6), (.int p5), (.int p4), (.int p3), (.int (3 : Int32))])) (fun _ k => XS.iload X126.here hx rfl (hb hby at_137) rfl k) ?_
            obtain ⟨_, _, ⟨T339, L339, k339, n339⟩, -, X339, ⟨Lc339, hQ339, l339, y339, z339⟩, st339⟩ := Jvm.LawKit.callS X126 hx (y := (⟨"com/example/tidegraph/tidegraph/graph/ElementListGetPinLaw", "expectedAt", "(IIIIIII)I"⟩ : MethodName)) hown (mvT hZ (hw _ (List.mem_of_getElem? (i := 71) rfl))) (mvT hZ (hw _ (List.mem_of_getElem? (i := 72) rfl))) (mvT hZ (hw _ (List.mem_of_getElem? (i := 73) rfl))) (mvT hZ (hw _ (List.mem_of_getElem? (i := 74) rfl))) (by decide) (backOf (W := 0) (rm11 l Z a0 hw [] (3 : Int32) p3 p4 p5 p6 (p3 ^^^ (-1 : Int32)) (p4 ^^^ (-1 : Int32)) T126.heap n0 z141) hZ (hw _ (List.mem_of_getElem? (i := 74) rfl)) (hw _ (List.mem_of_getElem? (i := 73) rfl)) (by decide) (by decide)) (g := (mkF m 139 #[.val (.int p1), .val (.int p2), .val (.int p3), .val (.int p4), .val (.int p5), .val (.int p6), .val (.int N_), .val (.int (3 : Int32)), .val (.int (p3 ^^^ (-1 : Int32))), .val (.int (p4 ^^^ (-1 : Int32))), .val (.ref b1), .unset, .unset] [(.int (p4 ^^^ (-1 : Int32))), (.int (p3 ^^^ (-1 : Int32))), (.int p6), (.int p5), (.int p4), (.int p3), (.int (3 : Int32))])) rfl (by rw [hml]; rfl) (argsL := [(.int (3 : Int32)), (.int p3), (.int p4), (.int p5), (.int p6), (.int (p3 ^^^ (-1 : Int32))), (.int (p4 ^^^ (-1 : Int32)))]) (rest := []) (lenOf pd_7 rfl) rfl (by show 2 * 0 + _ ≤ _; exact Nat.le_of_eq rfl) (hb hby at_139) (fun _ _ => ⟨rfl, rfl, (by decide : 6 + 0 ≤ _), (by decide : 11 + 0 ≤ _)⟩)
            dsimp only [Pt.U, Pt.locs, Pt.cells, Pt.slots] at X339 l339 y339 z339 st339 hQ339
            subst l339 y339 z339
            obtain ⟨rfl, N339q, e339⟩ := hQ339
            have N340 := Fr.app N127 N339q
            refine Go.via (S' := T339.setTop (mkF m 142 #[.val (.int p1), .val (.int p2), .val (.int p3), .val (.int p4), .val (.int p5), .val (.int p6), .val (.int N_), .val (.int (3 : Int32)), .val (.int (p3 ^^^ (-1 : Int32))), .val (.int (p4 ^^^ (-1 : Int32))), .val (.ref b1), .unset, .unset] [(.int (own_at (3 : Int32) p3 p4 p5 p6 (p3 ^^^ (-1 : Int32)) (p4 ^^^ (-1 : Int32))))])) (fun _ k => st339 _ k) ?_
            refine Go.via (S' := T339.setTop (mkF m 144 #[.val (.int p1), .val (.int p2), .val (.int p3), .val (.int p4), .val (.int p5), .val (.int p6), .val (.int N_), .val (.int (3 : Int32)), .val (.int (p3 ^^^ (-1 : Int32))), .val (.int (p4 ^^^ (-1 : Int32))), .val (.ref b1), .val (.int (own_at (3 : Int32) p3 p4 p5 p6 (p3 ^^^ (-1 : Int32)) (p4 ^^^ (-1 : Int32)))), .unset] [])) (fun _ k => XS.istore X339.here hx rfl (hb hby at_142) rfl (l' := #[.val (.int p1), .val (.int p2), .val (.int p3), .val (.int p4), .val (.int p5), .val (.int p6), .val (.int N_), .val (.int (3 : Int32)), .val (.int (p3 ^^^ (-1 : Int32))), .val (.int (p4 ^^^ (-1 : Int32))), .val (.ref b1), .val (.int (own_at (3 : Int32) p3 p4 p5 p6 (p3 ^^^ (-1 : Int32)) (p4 ^^^ (-1 : Int32)))), .unset]) rfl k) ?_
            refine Go.via (S' := T339.setTop (mkF m 146 #[.val (.int p1), .val (.int p2), .val (.int p3), .val (.int p4), .val (.int p5), .val (.int p6), .val (.int N_), .val (.int (3 : Int32)), .val (.int (p3 ^^^ (-1 : Int32))), .val (.int (p4 ^^^ (-1 : Int32))), .val (.ref b1), .val (.int (own_at (3 : Int32) p3 p4 p5 p6 (p3 ^^^ (-1 : Int32)) (p4 ^^^ (-1 : Int32)))), .unset] [(.ref b1)])) (fun _ k => XS.aload X339.here hx rfl (hb hby at_144) rfl rfl k) ?_
            refine Go.via (S' := T339.setTop (mkF m 148 #[.val (.int p1), .val (.int p2), .val (.int p3), .val (.int p4), .val (.int p5), .val (.int p6), .val (.int N_), .val (.int (3 : Int32)), .val (.int (p3 ^^^ (-1 : Int32))), .val (.int (p4 ^^^ (-1 : Int32))), .val (.ref b1), .val (.int (own_at (3 : Int32) p3 p4 p5 p6 (p3 ^^^ (-1 : Int32)) (p4 ^^^ (-1 : Int32)))), .unset] [(.int (3 : Int32)), (.ref b1)])) (fun _ k => XS.iload X339.here hx rfl (hb hby at_146) rfl k) ?_
            obtain ⟨cq341, kq341, q341a, q341b, q341c⟩ := isOf hZ e339 f131
            obtain ⟨_, _, ⟨T341, L341, k341, n341⟩, -, X341, ⟨Lc341, hQ341, l341, y341, z341⟩, st341⟩ := X339.virtualBack hx (y := (⟨"com/example/tidegraph/tidegraph/graph/ElementList", "get", "(I)Ljava/lang/Object;"⟩ : MethodName)) (z := (⟨"com/example/tidegraph/tidegraph/graph/ElementList", "get", "(I)Ljava/lang/Object;"⟩ : MethodName)) hown (mvT hZ (hw _ (List.mem_of_getElem? (i := 75) rfl))) (mvT hZ (hw _ (List.mem_of_getElem? (i := 76) rfl))) (notFace_of_selects (args := #[]) (mvT hZ (hw _ (List.mem_of_getElem? (i := 78) rfl)))) (mvT hZ (hw _ (List.mem_of_getElem? (i := 78) rfl))) (mvT hZ (hw _ (List.mem_of_getElem? (i := 77) rfl))) (by decide) (backOf (W := 0) (rm12 l Z a0 hw [] b1 (3 : Int32) ar31 k231 (4 : Int32) [(.ref r18), (.ref r43), (.ref r72), (.ref r105)] (4 : Int32) r105 T126.heap n0 z141 Fe126 Fs126 Va126 (by decide) (by decide) rfl) hZ (hw _ (List.mem_of_getElem? (i := 79) rfl)) (hw _ (List.mem_of_getElem? (i := 3) rfl)) (by decide) (by decide)) q341a q341c (g := (mkF m 148 #[.val (.int p1), .val (.int p2), .val (.int p3), .val (.int p4), .val (.int p5), .val (.int p6), .val (.int N_), .val (.int (3 : Int32)), .val (.int (p3 ^^^ (-1 : Int32))), .val (.int (p4 ^^^ (-1 : Int32))), .val (.ref b1), .val (.int (own_at (3 : Int32) p3 p4 p5 p6 (p3 ^^^ (-1 : Int32)) (p4 ^^^ (-1 : Int32)))), .unset] [(.int (3 : Int32)), (.ref b1)])) rfl (by rw [hml]; rfl) (Steps.refl _) (argsL := [(.int (3 : Int32))]) (rest := []) (lenOf pd_8 rfl) rfl (by show 2 * 0 + _ ≤ _; exact Nat.le_of_eq rfl) (hb hby at_148) (fun _ _ => ⟨rfl, e339, (by decide : 6 + 0 ≤ _), (by decide : 11 + 0 ≤ _)⟩)
            dsimp only [Pt.U, Pt.locs, Pt.cells, Pt.slots] at X341 l341 y341 z341 st341 hQ341
            subst l341 y341 z341
            obtain ⟨rfl, N341q, e341⟩ := hQ341
            have N342 := Fr.app N340 N341q
            refine Go.via (S' := T341.setTop (mkF m 151 #[.val (.int p1), .val (.int p2), .val (.int p3), .val (.int p4), .val (.int p5), .val (.int p6), .val (.int N_), .val (.int (3 : Int32)), .val (.int (p3 ^^^ (-1 : Int32))), .val (.int (p4 ^^^ (-1 : Int32))), .val (.ref b1), .val (.int (own_at (3 : Int32) p3 p4 p5 p6 (p3 ^^^ (-1 : Int32)) (p4 ^^^ (-1 : Int32)))), .unset] [(.ref r105)])) (fun _ k => st341.trans k) ?_
            obtain ⟨T343, X343, e343, st343⟩ := castY X341 hx hZ hown (hw _ (List.mem_of_getElem? (i := 80) rfl)) e341 (Ins.self f139) (g := (mkF m 151 #[.val (.int p1), .val (.int p2), .val (.int p3), .val (.int p4), .val (.int p5), .val (.int p6), .val (.int N_), .val (.int (3 : Int32)), .val (.int (p3 ^^^ (-1 : Int32))), .val (.int (p4 ^^^ (-1 : Int32))), .val (.ref b1), .val (.int (own_at (3 : Int32) p3 p4 p5 p6 (p3 ^^^ (-1 : Int32)) (p4 ^^^ (-1 : Int32)))), .unset] [(.ref r105)])) rfl rfl (hb hby at_151)
            refine Go.via (S' := T343.setTop (mkF m 154 #[.val (.int p1), .val (.int p2), .val (.int p3), .val (.int p4), .val (.int p5), .val (.int p6), .val (.int N_), .val (.int (3 : Int32)), .val (.int (p3 ^^^ (-1 : Int32))), .val (.int (p4 ^^^ (-1 : Int32))), .val (.ref b1), .val (.int (own_at (3 : Int32) p3 p4 p5 p6 (p3 ^^^ (-1 : Int32)) (p4 ^^^ (-1 : Int32)))), .unset] [(.ref r105)])) (fun _ k => st343 _ k) ?_
            refine Go.via (S' := T343.setTop (mkF m 156 #[.val (.int p1), .val (.int p2), .val (.int p3), .val (.int p4), .val (.int p5), .val (.int p6), .val (.int N_), .val (.int (3 : Int32)), .val (.int (p3 ^^^ (-1 : Int32))), .val (.int (p4 ^^^ (-1 : Int32))), .val (.ref b1), .val (.int (own_at (3 : Int32) p3 p4 p5 p6 (p3 ^^^ (-1 : Int32)) (p4 ^^^ (-1 : Int32)))), .val (.ref r105)] [])) (fun _ k => XS.astore X343.here hx rfl (hb hby at_154) rfl rfl (l' := #[.val (.int p1), .val (.int p2), .val (.int p3), .val (.int p4), .val (.int p5), .val (.int p6), .val (.int N_), .val (.int (3 : Int32)), .val (.int (p3 ^^^ (-1 : Int32))), .val (.int (p4 ^^^ (-1 : Int32))), .val (.ref b1), .val (.int (own_at (3 : Int32) p3 p4 p5 p6 (p3 ^^^ (-1 : Int32)) (p4 ^^^ (-1 : Int32)))), .val (.ref r105)]) rfl k) ?_
            refine Go.via (S' := T343.setTop (mkF m 158 #[.val (.int p1), .val (.int p2), .val (.int p3), .val (.int p4), .val (.int p5), .val (.int p6), .val (.int N_), .val (.int (3 : Int32)), .val (.int (p3 ^^^ (-1 : Int32))), .val (.int (p4 ^^^ (-1 : Int32))), .val (.ref b1), .val (.int (own_at (3 : Int32) p3 p4 p5 p6 (p3 ^^^ (-1 : Int32)) (p4 ^^^ (-1 : Int32)))), .val (.ref r105)] [(.ref r105)])) (fun _ k => XS.aload X343.here hx rfl (hb hby at_156) rfl rfl k) ?_
            refine Go.via (S' := T343.setTop (mkF m 163 #[.val (.int p1), .val (.int p2), .val (.int p3), .val (.int p4), .val (.int p5), .val (.int p6), .val (.int N_), .val (.int (3 : Int32)), .val (.int (p3 ^^^ (-1 : Int32))), .val (.int (p4 ^^^ (-1 : Int32))), .val (.ref b1), .val (.int (own_at (3 : Int32) p3 p4 p5 p6 (p3 ^^^ (-1 : Int32)) (p4 ^^^ (-1 : Int32)))), .val (.ref r105)] [])) (fun _ k => XS.ifnonnullYes X343.here hx rfl (pc0 := 158) (pc' := 163) rfl (hb hby at_158) rfl (by decide) (by decide) k) ?_
            refine Go.via (S' := T343.setTop (mkF m 165 #[.val (.int p1), .val (.int p2), .val (.int p3), .val (.int p4), .val (.int p5), .val (.int p6), .val (.int N_), .val (.int (3 : Int32)), .val (.int (p3 ^^^ (-1 : Int32))), .val (.int (p4 ^^^ (-1 : Int32))), .val (.ref b1), .val (.int (own_at (3 : Int32) p3 p4 p5 p6 (p3 ^^^ (-1 : Int32)) (p4 ^^^ (-1 : Int32)))), .val (.ref r105)] [(.ref r105)])) (fun _ k => XS.aload X343.here hx rfl (hb hby at_163) rfl rfl k) ?_
            obtain ⟨cq344, kq344, q344a, q344b, q344c⟩ := isOf hZ e343 f139
            obtain ⟨_, _, ⟨T344, L344, k344, n344⟩, -, X344, ⟨Lc344, hQ344, l344, y344, z344⟩, st344⟩ := X343.virtualBack hx (y := (⟨"java/lang/Integer", "intValue", "()I"⟩ : MethodName)) (z := (⟨"java/lang/Integer", "intValue", "()I"⟩ : MethodName)) hown (mvT hZ (hw _ (List.mem_of_getElem? (i := 82) rfl))) (mvT hZ (hw _ (List.mem_of_getElem? (i := 83) rfl))) (notFace_of_selects (args := #[]) (mvT hZ (hw _ (List.mem_of_getElem? (i := 85) rfl)))) (mvT hZ (hw _ (List.mem_of_getElem? (i := 85) rfl))) (mvT hZ (hw _ (List.mem_of_getElem? (i := 84) rfl))) (by decide) (backOf (W := 0) (rm13 l Z a0 hw [] r105 p6 T126.heap n0 z141 f140) hZ (hw _ (List.mem_of_getElem? (i := 86) rfl)) (hw _ (List.mem_of_getElem? (i := 29) rfl)) (by decide) (by decide)) q344a q344c (g := (mkF m 165 #[.val (.int p1), .val (.int p2), .val (.int p3), .val (.int p4), .val (.int p5), .val (.int p6), .val (.int N_), .val (.int (3 : Int32)), .val (.int (p3 ^^^ (-1 : Int32))), .val (.int (p4 ^^^ (-1 : Int32))), .val (.ref b1), .val (.int (own_at (3 : Int32) p3 p4 p5 p6 (p3 ^^^ (-1 : Int32)) (p4 ^^^ (-1 : Int32)))), .val (.ref r105)] [(.ref r105)])) rfl (by rw [hml]; rfl) (Steps.refl _) (argsL := []) (rest := []) (lenOf pd_9 rfl) rfl (by show 2 * 0 + _ ≤ _; exact Nat.le_of_eq rfl) (hb hby at_165) (fun _ _ => ⟨rfl, e343, (by decide : 6 + 0 ≤ _), (by decide : 11 + 0 ≤ _)⟩)
            dsimp only [Pt.U, Pt.locs, Pt.cells, Pt.slots] at X344 l344 y344 z344 st344 hQ344
            subst l344 y344 z344
            obtain ⟨rfl, N344q, e344⟩ := hQ344
            have N345 := Fr.app N342 N344q
            refine Go.via (S' := T344.setTop (mkF m 168 #[.val (.int p1), .val (.int p2), .val (.int p3), .val (.int p4), .val (.int p5), .val (.int p6), .val (.int N_), .val (.int (3 : Int32)), .val (.int (p3 ^^^ (-1 : Int32))), .val (.int (p4 ^^^ (-1 : Int32))), .val (.ref b1), .val (.int (own_at (3 : Int32) p3 p4 p5 p6 (p3 ^^^ (-1 : Int32)) (p4 ^^^ (-1 : Int32)))), .val (.ref r105)] [(.int p6)])) (fun _ k => st344.trans k) ?_
            refine Go.via (S' := T344.setTop (mkF m 170 #[.val (.int p1), .val (.int p2), .val (.int p3), .val (.int p4), .val (.int p5), .val (.int p6), .val (.int N_), .val (.int (3 : Int32)), .val (.int (p3 ^^^ (-1 : Int32))), .val (.int (p4 ^^^ (-1 : Int32))), .val (.ref b1), .val (.int (own_at (3 : Int32) p3 p4 p5 p6 (p3 ^^^ (-1 : Int32)) (p4 ^^^ (-1 : Int32)))), .val (.ref r105)] [(.int (own_at (3 : Int32) p3 p4 p5 p6 (p3 ^^^ (-1 : Int32)) (p4 ^^^ (-1 : Int32)))), (.int p6)])) (fun _ k => XS.iload X344.here hx rfl (hb hby at_168) rfl k) ?_
            refine Go.via (S' := T344.setTop (mkF m 173 #[.val (.int p1), .val (.int p2), .val (.int p3), .val (.int p4), .val (.int p5), .val (.int p6), .val (.int N_), .val (.int (3 : Int32)), .val (.int (p3 ^^^ (-1 : Int32))), .val (.int (p4 ^^^ (-1 : Int32))), .val (.ref b1), .val (.int (own_at (3 : Int32) p3 p4 p5 p6 (p3 ^^^ (-1 : Int32)) (p4 ^^^ (-1 : Int32)))), .val (.ref r105)] [])) (fun _ k => XS.icmpNo X344.here hx rfl (hb hby at_170) rfl (teq (by simp [own_at])).2 k) ?_
            refine Go.via (S' := T344.setTop (mkF m 174 #[.val (.int p1), .val (.int p2), .val (.int p3), .val (.int p4), .val (.int p5), .val (.int p6), .val (.int N_), .val (.int (3 : Int32)), .val (.int (p3 ^^^ (-1 : Int32))), .val (.int (p4 ^^^ (-1 : Int32))), .val (.ref b1), .val (.int (own_at (3 : Int32) p3 p4 p5 p6 (p3 ^^^ (-1 : Int32)) (p4 ^^^ (-1 : Int32)))), .val (.ref r105)] [(.int (1 : Int32))])) (fun _ k => XS.iconst X344.here hx rfl (hb hby at_173) k) ?_
            refine Go.via (S' := T344.setTop (mkF m 178 #[.val (.int p1), .val (.int p2), .val (.int p3), .val (.int p4), .val (.int p5), .val (.int p6), .val (.int N_), .val (.int (3 : Int32)), .val (.int (p3 ^^^ (-1 : Int32))), .val (.int (p4 ^^^ (-1 : Int32))), .val (.ref b1), .val (.int (own_at (3 : Int32) p3 p4 p5 p6 (p3 ^^^ (-1 : Int32)) (p4 ^^^ (-1 : Int32)))), .val (.ref r105)] [(.int (1 : Int32))])) (fun _ k => XS.goto X344.here hx rfl (pc0 := 174) (pc' := 178) rfl (hb hby at_174) (by decide) (by decide) k) ?_
            exact Go.retB X344 hx (BodyLoose.notSynchronized Bd) Bd.returns (hb hby at_178) rfl (by rw [e344]; exact ⟨rfl, N345⟩) (by decide) (by decide)
      · refine Go.via (S' := T91.setTop (mkF m 95 #[.val (.int p1), .val (.int p2), .val (.int p3), .val (.int p4), .val (.int p5), .val (.int p6), .val (.int N_), .val (.int I_), .val (.int (p3 ^^^ (-1 : Int32))), .val (.int (p4 ^^^ (-1 : Int32))), .val (.ref b1), .unset, .unset] [])) (fun _ k => XS.icmpYes X91.here hx rfl (pc0 := 82) (pc' := 95) rfl (hb hby at_82) rfl (flt hc82).2.2.2 (by decide) (by decide) k) ?_
        refine Go.via (S' := T91.setTop (mkF m 97 #[.val (.int p1), .val (.int p2), .val (.int p3), .val (.int p4), .val (.int p5), .val (.int p6), .val (.int N_), .val (.int I_), .val (.int (p3 ^^^ (-1 : Int32))), .val (.int (p4 ^^^ (-1 : Int32))), .val (.ref b1), .unset, .unset] [(.int N_)])) (fun _ k => XS.iload X91.here hx rfl (hb hby at_95) rfl k) ?_
        refine Go.via (S' := T91.setTop (mkF m 98 #[.val (.int p1), .val (.int p2), .val (.int p3), .val (.int p4), .val (.int p5), .val (.int p6), .val (.int N_), .val (.int I_), .val (.int (p3 ^^^ (-1 : Int32))), .val (.int (p4 ^^^ (-1 : Int32))), .val (.ref b1), .unset, .unset] [(.int (4 : Int32)), (.int N_)])) (fun _ k => XS.iconst X91.here hx rfl (hb hby at_97) k) ?_
        refine Go.via (S' := T91.setTop (mkF m 111 #[.val (.int p1), .val (.int p2), .val (.int p3), .val (.int p4), .val (.int p5), .val (.int p6), .val (.int N_), .val (.int I_), .val (.int (p3 ^^^ (-1 : Int32))), .val (.int (p4 ^^^ (-1 : Int32))), .val (.ref b1), .unset, .unset] [])) (fun _ k => XS.icmpYes X91.here hx rfl (pc0 := 98) (pc' := 111) rfl (hb hby at_98) rfl (flt (fun q => by rw [Int32.lt_iff_toInt_lt] at hc82 q; revert q hc82; show ¬ (3 < N_.toInt) → 4 < N_.toInt → False; omega)).2.2.2 (by decide) (by decide) k) ?_
        refine Go.via (S' := T91.setTop (mkF m 113 #[.val (.int p1), .val (.int p2), .val (.int p3), .val (.int p4), .val (.int p5), .val (.int p6), .val (.int N_), .val (.int I_), .val (.int (p3 ^^^ (-1 : Int32))), .val (.int (p4 ^^^ (-1 : Int32))), .val (.ref b1), .unset, .unset] [(.int N_)])) (fun _ k => XS.iload X91.here hx rfl (hb hby at_111) rfl k) ?_
        refine Go.via (S' := T91.setTop (mkF m 114 #[.val (.int p1), .val (.int p2), .val (.int p3), .val (.int p4), .val (.int p5), .val (.int p6), .val (.int N_), .val (.int I_), .val (.int (p3 ^^^ (-1 : Int32))), .val (.int (p4 ^^^ (-1 : Int32))), .val (.ref b1), .unset, .unset] [(.int (5 : Int32)), (.int N_)])) (fun _ k => XS.iconst X91.here hx rfl (hb hby at_113) k) ?_
        refine Go.via (S' := T91.setTop (mkF m 127 #[.val (.int p1), .val (.int p2), .val (.int p3), .val (.int p4), .val (.int p5), .val (.int p6), .val (.int N_), .val (.int I_), .val (.int (p3 ^^^ (-1 : Int32))), .val (.int (p4 ^^^ (-1 : Int32))), .val (.ref b1), .unset, .unset] [])) (fun _ k => XS.icmpYes X91.here hx rfl (pc0 := 114) (pc' := 127) rfl (hb hby at_114) rfl (flt (fun q => by rw [Int32.lt_iff_toInt_lt] at hc82 q; revert q hc82; show ¬ (3 < N_.toInt) → 5 < N_.toInt → False; omega)).2.2.2 (by decide) (by decide) k) ?_
        have hm : I_.toInt < 3 := by
          have t51 : 1 < N_.toInt := by rw [Int32.lt_iff_toInt_lt] at hc51; exact hc51
          have t66 : 2 < N_.toInt := by rw [Int32.lt_iff_toInt_lt] at hc66; exact hc66
          have t82 : ¬ (3 < N_.toInt) := by rw [Int32.lt_iff_toInt_lt] at hc82; exact hc82
          have := hN.2
          have := hI.2
          omega
        rcases (by have := hI.1; omega : I_.toInt = 0 ∨ I_.toInt = 1 ∨ I_.toInt = 2) with hi | hi | hi
        · obtain rfl : I_ = (0 : Int32) := Int32.toInt_inj.mp hi
          refine Go.via (S' := T91.setTop (mkF m 129 #[.val (.int p1), .val (.int p2), .val (.int p3), .val (.int p4), .val (.int p5), .val (.int p6), .val (.int N_), .val (.int (0 : Int32)), .val (.int (p3 ^^^ (-1 : Int32))), .val (.int (p4 ^^^ (-1 : Int32))), .val (.ref b1), .unset, .unset] [(.int (0 : Int32))])) (fun _ k => XS.iload X91.here hx rfl (hb hby at_127) rfl k) ?_
          refine Go.via (S' := T91.setTop (mkF m 130 #[.val (.int p1), .val (.int p2), .val (.int p3), .val (.int p4), .val (.int p5), .val (.int p6), .val (.int N_), .val (.int (0 : Int32)), .val (.int (p3 ^^^ (-1 : Int32))), .val (.int (p4 ^^^ (-1 : Int32))), .val (.ref b1), .unset, .unset] [(.int p3), (.int (0 : Int32))])) (fun _ k => XS.iloadN X91.here hx rfl (hb hby at_129) rfl k) ?_
          refine Go.via (S' := T91.setTop (mkF m 131 #[.val (.int p1), .val (.int p2), .val (.int p3), .val (.int p4), .val (.int p5), .val (.int p6), .val (.int N_), .val (.int (0 : Int32)), .val (.int (p3 ^^^ (-1 : Int32))), .val (.int (p4 ^^^ (-1 : Int32))), .val (.ref b1), .unset, .unset] [(.int p4), (.int p3), (.int (0 : Int32))])) (fun _ k => XS.iloadN X91.here hx rfl (hb hby at_130) rfl k) ?_
          refine Go.via (S' := T91.setTop (mkF m 133 #[.val (.int p1), .val (.int p2), .val (.int p3), .val (.int p4), .val (.int p5), .val (.int p6), .val (.int N_), .val (.int (0 : Int32)), .val (.int (p3 ^^^ (-1 : Int32))), .val (.int (p4 ^^^ (-1 : Int32))), .val (.ref b1), .unset, .unset] [(.int p5), (.int p4), (.int p3), (.int (0 : Int32))])) (fun _ k => XS.iload X91.here hx rfl (hb hby at_131) rfl k) ?_
          refine Go.via (S' := T91.setTop (mkF m 135 #[.val (.int p1), .val (.int p2), .val (.int p3), .val (.int p4), .val (.int p5), .val (.int p6), .val (.int N_), .val (.int (0 : Int32)), .val (.int (p3 ^^^ (-1 : Int32))), .val (.int (p4 ^^^ (-1 : Int32))), .val (.ref b1), .unset, .unset] [(.int p6), (.int p5), (.int p4), (.int p3), (.int (0 : Int32))])) (fun _ k => XS.iload X91.here hx rfl (hb hby at_133) rfl k) ?_
          refine Go.via (S' := T91.setTop (mkF m 137 #[.val (.int p1), .val (.int p2), .val (.int p3), .val (.int p4), .val (.int p5), .val (.int p6), .val (.int N_), .val (.int (0 : Int32)), .val (.int (p3 ^^^ (-1 : Int32))), .val (.int (p4 ^^^ (-1 : Int32))), .val (.ref b1), .unset, .unset] [(.int (p3 ^^^ (-1 : Int32))), (.int p6), (.int p5), (.int p4), (.int p3), (.int (0 : Int32))])) (fun _ k => XS.iload X91.here hx rfl (hb hby at_135) rfl k) ?_
          refine Go.via (S' := T91.setTop (mkF m 139 #[.val (.int p1), .val (.int p2), .val (.int p3), .val (.int p4), .val (.int p5), .val (.int p6), .val (.int N_), .val (.int (0 : Int32)), .val (.int (p3 ^^^ (-1 : Int32))), .val (.int (p4 ^^^ (-1 : Int32))), .val (.ref b1), .unset, .unset] [(.int (p4 ^^^ (-1 : Int32))), (.int (p3 ^^^ (-1 : Int32))), (.int p6), (.int p5), (.int p4), (.int p3), (.int (0 : Int32))])) (fun _ k => XS.iload X91.here hx rfl (hb hby at_137) rfl k) ?_
          obtain ⟨_, _, ⟨T346, L346, k346, n346⟩, -, X346, ⟨Lc346, hQ346, l346, y346, z346⟩, st346⟩ := Jvm.LawKit.callS X91 hx (y := (⟨"com/example/tidegraph/tidegraph/graph/ElementListGetPinLaw", "expectedAt", "(IIIIIII)I"⟩ : MethodName)) hown (mvT hZ (hw _ (List.mem_of_getElem? (i := 71) rfl))) (mvT hZ (hw _ (List.mem_of_getElem? (i := 72) rfl))) (mvT hZ (hw _ (List.mem_of_getElem? (i := 73) rfl))) (mvT hZ (hw _ (List.mem_of_getElem? (i := 74) rfl))) (by decide) (backOf (W := 0) (rm11 l Z a0 hw [] (0 : Int32) p3 p4 p5 p6 (p3 ^^^ (-1 : Int32)) (p4 ^^^ (-1 : Int32)) T91.heap n0 z104) hZ (hw _ (List.mem_of_getElem? (i := 74) rfl)) (hw _ (List.mem_of_getElem? (i := 73) rfl)) (by decide) (by decide)) (g := (mkF m 139 #[.val (.int p1), .val (.int p2), .val (.int p3), .val (.int p4), .val (.int p5), .val (.int p6), .val (.int N_), .val (.int (0 : Int32)), .val (.int (p3 ^^^ (-1 : Int32))), .val (.int (p4 ^^^ (-1 : Int32))), .val (.ref b1), .unset, .unset] [(.int (p4 ^^^ (-1 : Int32))), (.int (p3 ^^^ (-1 : Int32))), (.int p6), (.int p5), (.int p4), (.int p3), (.int (0 : Int32))])) rfl (by rw [hml]; rfl) (argsL := [(.int (0 : Int32)), (.int p3), (.int p4), (.int p5), (.int p6), (.int (p3 ^^^ (-1 : Int32))), (.int (p4 ^^^ (-1 : Int32)))]) (rest := []) (lenOf pd_7 rfl) rfl (by show 2 * 0 + _ ≤ _; exact Nat.le_of_eq rfl) (hb hby at_139) (fun _ _ => ⟨rfl, rfl, (by decide : 5 + 0 ≤ _), (by decide : 10 + 0 ≤ _)⟩)
          dsimp only [Pt.U, Pt.locs, Pt.cells, Pt.slots] at X346 l346 y346 z346 st346 hQ346
          subst l346 y346 z346
          obtain ⟨rfl, N346q, e346⟩ := hQ346
          have N347 := Fr.app N92 N346q
          refine Go.via (S' := T346.setTop (mkF m 142 #[.val (.int p1), .val (.int p2), .val (.int p3), .val (.int p4), .val (.int p5), .val (.int p6), .val (.int N_), .val (.int (0 : Int32)), .val (.int (p3 ^^^ (-1 : Int32))), .val (.int (p4 ^^^ (-1 : Int32))), .val (.ref b1), .unset, .unset] [(.int (own_at (0 : Int32) p3 p4 p5 p6 (p3 ^^^ (-1 : Int32)) (p4 ^^^ (-1 : Int32))))])) (fun _ k => st346 _ k) ?_
          refine Go.via (S' := T346.setTop (mkF m 144 #[.val (.int p1), .val (.int p2), .val (.int p3), .val (.int p4), .val (.int p5), .val (.int p6), .val (.int N_), .val (.int (0 : Int32)), .val (.int (p3 ^^^ (-1 : Int32))), .val (.int (p4 ^^^ (-1 : Int32))), .val (.ref b1), .val (.int (own_at (0 : Int32) p3 p4 p5 p6 (p3 ^^^ (-1 : Int32)) (p4 ^^^ (-1 : Int32)))), .unset] [])) (fun _ k => XS.istore X346.here hx rfl (hb hby at_142) rfl (l' := #[.val (.int p1), .val (.int p2), .val (.int p3), .val (.int p4), .val (.int p5), .val (.int p6), .val (.int N_), .val (.int (0 : Int32)), .val (.int (p3 ^^^ (-1 : Int32))), .val (.int (p4 ^^^ (-1 : Int32))), .val (.ref b1), .val (.int (own_at (0 : Int32) p3 p4 p5 p6 (p3 ^^^ (-1 : Int32)) (p4 ^^^ (-1 : Int32)))), .unset]) rfl k) ?_
          refine Go.via (S' := T346.setTop (mkF m 146 #[.val (.int p1), .val (.int p2), .val (.int p3), .val (.int p4), .val (.int p5), .val (.int p6), .val (.int N_), .val (.int (0 : Int32)), .val (.int (p3 ^^^ (-1 : Int32))), .val (.int (p4 ^^^ (-1 : Int32))), .val (.ref b1), .val (.int (own_at (0 : Int32) p3 p4 p5 p6 (p3 ^^^ (-1 : Int32)) (p4 ^^^ (-1 : Int32)))), .unset] [(.ref b1)])) (fun _ k => XS.aload X346.here hx rfl (hb hby at_144) rfl rfl k) ?_
          refine Go.via (S' := T346.setTop (mkF m 148 #[.val (.int p1), .val (.int p2), .val (.int p3), .val (.int p4), .val (.int p5), .val (.int p6), .val (.int N_), .val (.int (0 : Int32)), .val (.int (p3 ^^^ (-1 : Int32))), .val (.int (p4 ^^^ (-1 : Int32))), .val (.ref b1), .val (.int (own_at (0 : Int32) p3 p4 p5 p6 (p3 ^^^ (-1 : Int32)) (p4 ^^^ (-1 : Int32)))), .unset] [(.int (0 : Int32)), (.ref b1)])) (fun _ k => XS.iload X346.here hx rfl (hb hby at_146) rfl k) ?_
          obtain ⟨cq348, kq348, q348a, q348b, q348c⟩ := isOf hZ e346 f96
          obtain ⟨_, _, ⟨T348, L348, k348, n348⟩, -, X348, ⟨Lc348, hQ348, l348, y348, z348⟩, st348⟩ := X346.virtualBack hx (y := (⟨"com/example/tidegraph/tidegraph/graph/ElementList", "get", "(I)Ljava/lang/Object;"⟩ : MethodName)) (z := (⟨"com/example/tidegraph/tidegraph/graph/ElementList", "get", "(I)Ljava/lang/Object;"⟩ : MethodName)) hown (mvT hZ (hw _ (List.mem_of_getElem? (i := 75) rfl))) (mvT hZ (hw _ (List.mem_of_getElem? (i := 76) rfl))) (notFace_of_selects (args := #[]) (mvT hZ (hw _ (List.mem_of_getElem? (i := 78) rfl)))) (mvT hZ (hw _ (List.mem_of_getElem? (i := 78) rfl))) (mvT hZ (hw _ (List.mem_of_getElem? (i := 77) rfl))) (by decide) (backOf (W := 0) (rm12 l Z a0 hw [] b1 (0 : Int32) ar31 k231 (4 : Int32) [(.ref r18), (.ref r43), (.ref r72), .null] (3 : Int32) r18 T91.heap n0 z104 Fe91 Fs91 Va91 (by decide) (by decide) rfl) hZ (hw _ (List.mem_of_getElem? (i := 79) rfl)) (hw _ (List.mem_of_getElem? (i := 3) rfl)) (by decide) (by decide)) q348a q348c (g := (mkF m 148 #[.val (.int p1), .val (.int p2), .val (.int p3), .val (.int p4), .val (.int p5), .val (.int p6), .val (.int N_), .val (.int (0 : Int32)), .val (.int (p3 ^^^ (-1 : Int32))), .val (.int (p4 ^^^ (-1 : Int32))), .val (.ref b1), .val (.int (own_at (0 : Int32) p3 p4 p5 p6 (p3 ^^^ (-1 : Int32)) (p4 ^^^ (-1 : Int32)))), .unset] [(.int (0 : Int32)), (.ref b1)])) rfl (by rw [hml]; rfl) (Steps.refl _) (argsL := [(.int (0 : Int32))]) (rest := []) (lenOf pd_8 rfl) rfl (by show 2 * 0 + _ ≤ _; exact Nat.le_of_eq rfl) (hb hby at_148) (fun _ _ => ⟨rfl, e346, (by decide : 5 + 0 ≤ _), (by decide : 10 + 0 ≤ _)⟩)
          dsimp only [Pt.U, Pt.locs, Pt.cells, Pt.slots] at X348 l348 y348 z348 st348 hQ348
          subst l348 y348 z348
          obtain ⟨rfl, N348q, e348⟩ := hQ348
          have N349 := Fr.app N347 N348q
          refine Go.via (S' := T348.setTop (mkF m 151 #[.val (.int p1), .val (.int p2), .val (.int p3), .val (.int p4), .val (.int p5), .val (.int p6), .val (.int N_), .val (.int (0 : Int32)), .val (.int (p3 ^^^ (-1 : Int32))), .val (.int (p4 ^^^ (-1 : Int32))), .val (.ref b1), .val (.int (own_at (0 : Int32) p3 p4 p5 p6 (p3 ^^^ (-1 : Int32)) (p4 ^^^ (-1 : Int32)))), .unset] [(.ref r18)])) (fun _ k => st348.trans k) ?_
          obtain ⟨T350, X350, e350, st350⟩ := castY X348 hx hZ hown (hw _ (List.mem_of_getElem? (i := 80) rfl)) e348 (Ins.self f97) (g := (mkF m 151 #[.val (.int p1), .val (.int p2), .val (.int p3), .val (.int p4), .val (.int p5), .val (.int p6), .val (.int N_), .val (.int (0 : Int32)), .val (.int (p3 ^^^ (-1 : Int32))), .val (.int (p4 ^^^ (-1 : Int32))), .val (.ref b1), .val (.int (own_at (0 : Int32) p3 p4 p5 p6 (p3 ^^^ (-1 : Int32)) (p4 ^^^ (-1 : Int32)))), .unset] [(.ref r18)])) rfl rfl (hb hby at_151)
          refine Go.via (S' := T350.setTop (mkF m 154 #[.val (.int p1), .val (.int p2), .val (.int p3), .val (.int p4), .val (.int p5), .val (.int p6), .val (.int N_), .val (.int (0 : Int32)), .val (.int (p3 ^^^ (-1 : Int32))), .val (.int (p4 ^^^ (-1 : Int32))), .val (.ref b1), .val (.int (own_at (0 : Int32) p3 p4 p5 p6 (p3 ^^^ (-1 : Int32)) (p4 ^^^ (-1 : Int32)))), .unset] [(.ref r18)])) (fun _ k => st350 _ k) ?_
          refine Go.via (S' := T350.setTop (mkF m 156 #[.val (.int p1), .val (.int p2), .val (.int p3), .val (.int p4), .val (.int p5), .val (.int p6), .val (.int N_), .val (.int (0 : Int32)), .val (.int (p3 ^^^ (-1 : Int32))), .val (.int (p4 ^^^ (-1 : Int32))), .val (.ref b1), .val (.int (own_at (0 : Int32) p3 p4 p5 p6 (p3 ^^^ (-1 : Int32)) (p4 ^^^ (-1 : Int32)))), .val (.ref r18)] [])) (fun _ k => XS.astore X350.here hx rfl (hb hby at_154) rfl rfl (l' := #[.val (.int p1), .val (.int p2), .val (.int p3), .val (.int p4), .val (.int p5), .val (.int p6), .val (.int N_), .val (.int (0 : Int32)), .val (.int (p3 ^^^ (-1 : Int32))), .val (.int (p4 ^^^ (-1 : Int32))), .val (.ref b1), .val (.int (own_at (0 : Int32) p3 p4 p5 p6 (p3 ^^^ (-1 : Int32)) (p4 ^^^ (-1 : Int32)))), .val (.ref r18)]) rfl k) ?_
          refine Go.via (S' := T350.setTop (mkF m 158 #[.val (.int p1), .val (.int p2), .val (.int p3), .val (.int p4), .val (.int p5), .val (.int p6), .val (.int N_), .val (.int (0 : Int32)), .val (.int (p3 ^^^ (-1 : Int32))), .val (.int (p4 ^^^ (-1 : Int32))), .val (.ref b1), .val (.int (own_at (0 : Int32) p3 p4 p5 p6 (p3 ^^^ (-1 : Int32)) (p4 ^^^ (-1 : Int32)))), .val (.ref r18)] [(.ref r18)])) (fun _ k => XS.aload X350.here hx rfl (hb hby at_156) rfl rfl k) ?_
          refine Go.via (S' := T350.setTop (mkF m 163 #[.val (.int p1), .val (.int p2), .val (.int p3), .val (.int p4), .val (.int p5), .val (.int p6), .val (.int N_), .val (.int (0 : Int32)), .val (.int (p3 ^^^ (-1 : Int32))), .val (.int (p4 ^^^ (-1 : Int32))), .val (.ref b1), .val (.int (own_at (0 : Int32) p3 p4 p5 p6 (p3 ^^^ (-1 : Int32)) (p4 ^^^ (-1 : Int32)))), .val (.ref r18)] [])) (fun _ k => XS.ifnonnullYes X350.here hx rfl (pc0 := 158) (pc' := 163) rfl (hb hby at_158) rfl (by decide) (by decide) k) ?_
          refine Go.via (S' := T350.setTop (mkF m 165 #[.val (.int p1), .val (.int p2), .val (.int p3), .val (.int p4), .val (.int p5), .val (.int p6), .val (.int N_), .val (.int (0 : Int32)), .val (.int (p3 ^^^ (-1 : Int32))), .val (.int (p4 ^^^ (-1 : Int32))), .val (.ref b1), .val (.int (own_at (0 : Int32) p3 p4 p5 p6 (p3 ^^^ (-1 : Int32)) (p4 ^^^ (-1 : Int32)))), .val (.ref r18)] [(.ref r18)])) (fun _ k => XS.aload X350.here hx rfl (hb hby at_163) rfl rfl k) ?_
          obtain ⟨cq351, kq351, q351a, q351b, q351c⟩ := isOf hZ e350 f97
          obtain ⟨_, _, ⟨T351, L351, k351, n351⟩, -, X351, ⟨Lc351, hQ351, l351, y351, z351⟩, st351⟩ := X350.virtualBack hx (y := (⟨"java/lang/Integer", "intValue", "()I"⟩ : MethodName)) (z := (⟨"java/lang/Integer", "intValue", "()I"⟩ : MethodName)) hown (mvT hZ (hw _ (List.mem_of_getElem? (i := 82) rfl))) (mvT hZ (hw _ (List.mem_of_getElem? (i := 83) rfl))) (notFace_of_selects (args := #[]) (mvT hZ (hw _ (List.mem_of_getElem? (i := 85) rfl)))) (mvT hZ (hw _ (List.mem_of_getElem? (i := 85) rfl))) (mvT hZ (hw _ (List.mem_of_getElem? (i := 84) rfl))) (by decide) (backOf (W := 0) (rm13 l Z a0 hw [] r18 p3 T91.heap n0 z104 f98) hZ (hw _ (List.mem_of_getElem? (i := 86) rfl)) (hw _ (List.mem_of_getElem? (i := 29) rfl)) (by decide) (by decide)) q351a q351c (g := (mkF m 165 #[.val (.int p1), .val (.int p2), .val (.int p3), .val (.int p4), .val (.int p5), .val (.int p6), .val (.int N_), .val (.int (0 : Int32)), .val (.int (p3 ^^^ (-1 : Int32))), .val (.int (p4 ^^^ (-1 : Int32))), .val (.ref b1), .val (.int (own_at (0 : Int32) p3 p4 p5 p6 (p3 ^^^ (-1 : Int32)) (p4 ^^^ (-1 : Int32)))), .val (.ref r18)] [(.ref r18)])) rfl (by rw [hml]; rfl) (Steps.refl _) (argsL := []) (rest := []) (lenOf pd_9 rfl) rfl (by show 2 * 0 + _ ≤ _; exact Nat.le_of_eq rfl) (hb hby at_165) (fun _ _ => ⟨rfl, e350, (by decide : 5 + 0 ≤ _), (by decide : 10 + 0 ≤ _)⟩)
          dsimp only [Pt.U, Pt.locs, Pt.cells, Pt.slots] at X351 l351 y351 z351 st351 hQ351
          subst l351 y351 z351
          obtain ⟨rfl, N351q, e351⟩ := hQ351
          have N352 := Fr.app N349 N351q
          refine Go.via (S' := T351.setTop (mkF m 168 #[.val (.int p1), .val (.int p2), .val (.int p3), .val (.int p4), .val (.int p5), .val (.int p6), .val (.int N_), .val (.int (0 : Int32)), .val (.int (p3 ^^^ (-1 : Int32))), .val (.int (p4 ^^^ (-1 : Int32))), .val (.ref b1), .val (.int (own_at (0 : Int32) p3 p4 p5 p6 (p3 ^^^ (-1 : Int32)) (p4 ^^^ (-1 : Int32)))), .val (.ref r18)] [(.int p3)])) (fun _ k => st351.trans k) ?_
          refine Go.via (S' := T351.setTop (mkF m 170 #[.val (.int p1), .val (.int p2), .val (.int p3), .val (.int p4), .val (.int p5), .val (.int p6), .val (.int N_), .val (.int (0 : Int32)), .val (.int (p3 ^^^ (-1 : Int32))), .val (.int (p4 ^^^ (-1 : Int32))), .val (.ref b1), .val (.int (own_at (0 : Int32) p3 p4 p5 p6 (p3 ^^^ (-1 : Int32)) (p4 ^^^ (-1 : Int32)))), .val (.ref r18)] [(.int (own_at (0 : Int32) p3 p4 p5 p6 (p3 ^^^ (-1 : Int32)) (p4 ^^^ (-1 : Int32)))), (.int p3)])) (fun _ k => XS.iload X351.here hx rfl (hb hby at_168) rfl k) ?_
          refine Go.via (S' := T351.setTop (mkF m 173 #[.val (.int p1), .val (.int p2), .val (.int p3), .val (.int p4), .val (.int p5), .val (.int p6), .val (.int N_), .val (.int (0 : Int32)), .val (.int (p3 ^^^ (-1 : Int32))), .val (.int (p4 ^^^ (-1 : Int32))), .val (.ref b1), .val (.int (own_at (0 : Int32) p3 p4 p5 p6 (p3 ^^^ (-1 : Int32)) (p4 ^^^ (-1 : Int32)))), .val (.ref r18)] [])) (fun _ k => XS.icmpNo X351.here hx rfl (hb hby at_170) rfl (teq (by simp [own_at])).2 k) ?_
          refine Go.via (S' := T351.setTop (mkF m 174 #[.val (.int p1), .val (.int p2), .val (.int p3), .val (.int p4), .val (.int p5), .val (.int p6), .val (.int N_), .val (.int (0 : Int32)), .val (.int (p3 ^^^ (-1 : Int32))), .val (.int (p4 ^^^ (-1 : Int32))), .val (.ref b1), .val (.int (own_at (0 : Int32) p3 p4 p5 p6 (p3 ^^^ (-1 : Int32)) (p4 ^^^ (-1 : Int32)))), .val (.ref r18)] [(.int (1 : Int32))])) (fun _ k => XS.iconst X351.here hx rfl (hb hby at_173) k) ?_
          refine Go.via (S' := T351.setTop (mkF m 178 #[.val (.int p1), .val (.int p2), .val (.int p3), .val (.int p4), .val (.int p5), .val (.int p6), .val (.int N_), .val (.int (0 : Int32)), .val (.int (p3 ^^^ (-1 : Int32))), .val (.int (p4 ^^^ (-1 : Int32))), .val (.ref b1), .val (.int (own_at (0 : Int32) p3 p4 p5 p6 (p3 ^^^ (-1 : Int32)) (p4 ^^^ (-1 : Int32)))), .val (.ref r18)] [(.int (1 : Int32))])) (fun _ k => XS.goto X351.here hx rfl (pc0 := 174) (pc' := 178) rfl (hb hby at_174) (by decide) (by decide) k) ?_
          exact Go.retB X351 hx (BodyLoose.notSynchronized Bd) Bd.returns (hb hby at_178) rfl (by rw [e351]; exact ⟨rfl, N352⟩) (by decide) (by decide)
        · obtain rfl : I_ = (1 : Int32) := Int32.toInt_inj.mp hi
          refine Go.via (S' := T91.setTop (mkF m 129 #[.val (.int p1), .val (.int p2), .val (.int p3), .val (.int p4), .val (.int p5), .val (.int p6), .val (.int N_), .val (.int (1 : Int32)), .val (.int (p3 ^^^ (-1 : Int32))), .val (.int (p4 ^^^ (-1 : Int32))), .val (.ref b1), .unset, .unset] [(.int (1 : Int32))])) (fun _ k => XS.iload X91.here hx rfl (hb hby at_127) rfl k) ?_
          refine Go.via (S' := T91.setTop (mkF m 130 #[.val (.int p1), .val (.int p2), .val (.int p3), .val (.int p4), .val (.int p5), .val (.int p6), .val (.int N_), .val (.int (1 : Int32)), .val (.int (p3 ^^^ (-1 : Int32))), .val (.int (p4 ^^^ (-1 : Int32))), .val (.ref b1), .unset, .unset] [(.int p3), (.int (1 : Int32))])) (fun _ k => XS.iloadN X91.here hx rfl (hb hby at_129) rfl k) ?_
          refine Go.via (S' := T91.setTop (mkF m 131 #[.val (.int p1), .val (.int p2), .val (.int p3), .val (.int p4), .val (.int p5), .val (.int p6), .val (.int N_), .val (.int (1 : Int32)), .val (.int (p3 ^^^ (-1 : Int32))), .val (.int (p4 ^^^ (-1 : Int32))), .val (.ref b1), .unset, .unset] [(.int p4), (.int p3), (.int (1 : Int32))])) (fun _ k => XS.iloadN X91.here hx rfl (hb hby at_130) rfl k) ?_
          refine Go.via (S' := T91.setTop (mkF m 133 #[.val (.int p1), .val (.int p2), .val (.int p3), .val (.int p4), .val (.int p5), .val (.int p6), .val (.int N_), .val (.int (1 : Int32)), .val (.int (p3 ^^^ (-1 : Int32))), .val (.int (p4 ^^^ (-1 : Int32))), .val (.ref b1), .unset, .unset] [(.int p5), (.int p4), (.int p3), (.int (1 : Int32))])) (fun _ k => XS.iload X91.here hx rfl (hb hby at_131) rfl k) ?_
          refine Go.via (S' := T91.setTop (mkF m 135 #[.val (.int p1), .val (.int p2), .val (.int p3), .val (.int p4), .val (.int p5), .val (.int p6), .val (.int N_), .val (.int (1 : Int32)), .val (.int (p3 ^^^ (-1 : Int32))), .val (.int (p4 ^^^ (-1 : Int32))), .val (.ref b1), .unset, .unset] [(.int p6), (.int p5), (.int p4), (.int p3), (.int (1 : Int32))])) (fun _ k => XS.iload X91.here hx rfl (hb hby at_133) rfl k) ?_
          refine Go.via (S' := T91.setTop (mkF m 137 #[.val (.int p1), .val (.int p2), .val (.int p3), .val (.int p4), .val (.int p5), .val (.int p6), .val (.int N_), .val (.int (1 : Int32)), .val (.int (p3 ^^^ (-1 : Int32))), .val (.int (p4 ^^^ (-1 : Int32))), .val (.ref b1), .unset, .unset] [(.int (p3 ^^^ (-1 : Int32))), (.int p6), (.int p5), (.int p4), (.int p3), (.int (1 : Int32))])) (fun _ k => XS.iload X91.here hx rfl (hb hby at_135) rfl k) ?_
          refine Go.via (S' := T91.setTop (mkF m 139 #[.val (.int p1), .val (.int p2), .val (.int p3), .val (.int p4), .val (.int p5), .val (.int p6), .val (.int N_), .val (.int (1 : Int32)), .val (.int (p3 ^^^ (-1 : Int32))), .val (.int (p4 ^^^ (-1 : Int32))), .val (.ref b1), .unset, .unset] [(.int (p4 ^^^ (-1 : Int32))), (.int (p3 ^^^ (-1 : Int32))), (.int p6), (.int p5), (.int p4), (.int p3), (.int (1 : Int32))])) (fun _ k => XS.iload X91.here hx rfl (hb hby at_137) rfl k) ?_
          obtain ⟨_, _, ⟨T353, L353, k353, n353⟩, -, X353, ⟨Lc353, hQ353, l353, y353, z353⟩, st353⟩ := Jvm.LawKit.callS X91 hx (y := (⟨"com/example/tidegraph/tidegraph/graph/ElementListGetPinLaw", "expectedAt", "(IIIIIII)I"⟩ : MethodName)) hown (mvT hZ (hw _ (List.mem_of_getElem? (i := 71) rfl))) (mvT hZ (hw _ (List.mem_of_getElem? (i := 72) rfl))) (mvT hZ (hw _ (List.mem_of_getElem? (i := 73) rfl))) (mvT hZ (hw _ (List.mem_of_getElem? (i := 74) rfl))) (by decide) (backOf (W := 0) (rm11 l Z a0 hw [] (1 : Int32) p3 p4 p5 p6 (p3 ^^^ (-1 : Int32)) (p4 ^^^ (-1 : Int32)) T91.heap n0 z104) hZ (hw _ (List.mem_of_getElem? (i := 74) rfl)) (hw _ (List.mem_of_getElem? (i := 73) rfl)) (by decide) (by decide)) (g := (mkF m 139 #[.val (.int p1), .val (.int p2), .val (.int p3), .val (.int p4), .val (.int p5), .val (.int p6), .val (.int N_), .val (.int (1 : Int32)), .val (.int (p3 ^^^ (-1 : Int32))), .val (.int (p4 ^^^ (-1 : Int32))), .val (.ref b1), .unset, .unset] [(.int (p4 ^^^ (-1 : Int32))), (.int (p3 ^^^ (-1 : Int32))), (.int p6), (.int p5), (.int p4), (.int p3), (.int (1 : Int32))])) rfl (by rw [hml]; rfl) (argsL := [(.int (1 : Int32)), (.int p3), (.int p4), (.int p5), (.int p6), (.int (p3 ^^^ (-1 : Int32))), (.int (p4 ^^^ (-1 : Int32)))]) (rest := []) (lenOf pd_7 rfl) rfl (by show 2 * 0 + _ ≤ _; exact Nat.le_of_eq rfl) (hb hby at_139) (fun _ _ => ⟨rfl, rfl, (by decide : 5 + 0 ≤ _), (by decide : 10 + 0 ≤ _)⟩)
          dsimp only [Pt.U, Pt.locs, Pt.cells, Pt.slots] at X353 l353 y353 z353 st353 hQ353
          subst l353 y353 z353
          obtain ⟨rfl, N353q, e353⟩ := hQ353
          have N354 := Fr.app N92 N353q
          refine Go.via (S' := T353.setTop (mkF m 142 #[.val (.int p1), .val (.int p2), .val (.int p3), .val (.int p4), .val (.int p5), .val (.int p6), .val (.int N_), .val (.int (1 : Int32)), .val (.int (p3 ^^^ (-1 : Int32))), .val (.int (p4 ^^^ (-1 : Int32))), .val (.ref b1), .unset, .unset] [(.int (own_at (1 : Int32) p3 p4 p5 p6 (p3 ^^^ (-1 : Int32)) (p4 ^^^ (-1 : Int32))))])) (fun _ k => st353 _ k) ?_
          refine Go.via (S' := T353.setTop (mkF m 144 #[.val (.int p1), .val (.int p2), .val (.int p3), .val (.int p4), .val (.int p5), .val (.int p6), .val (.int N_), .val (.int (1 : Int32)), .val (.int (p3 ^^^ (-1 : Int32))), .val (.int (p4 ^^^ (-1 : Int32))), .val (.ref b1), .val (.int (own_at (1 : Int32) p3 p4 p5 p6 (p3 ^^^ (-1 : Int32)) (p4 ^^^ (-1 : Int32)))), .unset] [])) (fun _ k => XS.istore X353.here hx rfl (hb hby at_142) rfl (l' := #[.val (.int p1), .val (.int p2), .val (.int p3), .val (.int p4), .val (.int p5), .val (.int p6), .val (.int N_), .val (.int (1 : Int32)), .val (.int (p3 ^^^ (-1 : Int32))), .val (.int (p4 ^^^ (-1 : Int32))), .val (.ref b1), .val (.int (own_at (1 : Int32) p3 p4 p5 p6 (p3 ^^^ (-1 : Int32)) (p4 ^^^ (-1 : Int32)))), .unset]) rfl k) ?_
          refine Go.via (S' := T353.setTop (mkF m 146 #[.val (.int p1), .val (.int p2), .val (.int p3), .val (.int p4), .val (.int p5), .val (.int p6), .val (.int N_), .val (.int (1 : Int32)), .val (.int (p3 ^^^ (-1 : Int32))), .val (.int (p4 ^^^ (-1 : Int32))), .val (.ref b1), .val (.int (own_at (1 : Int32) p3 p4 p5 p6 (p3 ^^^ (-1 : Int32)) (p4 ^^^ (-1 : Int32)))), .unset] [(.ref b1)])) (fun _ k => XS.aload X353.here hx rfl (hb hby at_144) rfl rfl k) ?_
          refine Go.via (S' := T353.setTop (mkF m 148 #[.val (.int p1), .val (.int p2), .val (.int p3), .val (.int p4), .val (.int p5), .val (.int p6), .val (.int N_), .val (.int (1 : Int32)), .val (.int (p3 ^^^ (-1 : Int32))), .val (.int (p4 ^^^ (-1 : Int32))), .val (.ref b1), .val (.int (own_at (1 : Int32) p3 p4 p5 p6 (p3 ^^^ (-1 : Int32)) (p4 ^^^ (-1 : Int32)))), .unset] [(.int (1 : Int32)), (.ref b1)])) (fun _ k => XS.iload X353.here hx rfl (hb hby at_146) rfl k) ?_
          obtain ⟨cq355, kq355, q355a, q355b, q355c⟩ := isOf hZ e353 f96
          obtain ⟨_, _, ⟨T355, L355, k355, n355⟩, -, X355, ⟨Lc355, hQ355, l355, y355, z355⟩, st355⟩ := X353.virtualBack hx (y := (⟨"com/example/tidegraph/tidegraph/graph/ElementList", "get", "(I)Ljava/lang/Object;"⟩ : MethodName)) (z := (⟨"com/example/tidegraph/tidegraph/graph/ElementList", "get", "(I)Ljava/lang/Object;"⟩ : MethodName)) hown (mvT hZ (hw _ (List.mem_of_getElem? (i := 75) rfl))) (mvT hZ (hw _ (List.mem_of_getElem? (i := 76) rfl))) (notFace_of_selects (args := #[]) (mvT hZ (hw _ (List.mem_of_getElem? (i := 78) rfl)))) (mvT hZ (hw _ (List.mem_of_getElem? (i := 78) rfl))) (mvT hZ (hw _ (List.mem_of_getElem? (i := 77) rfl))) (by decide) (backOf (W := 0) (rm12 l Z a0 hw [] b1 (1 : Int32) ar31 k231 (4 : Int32) [(.ref r18), (.ref r43), (.ref r72), .null] (3 : Int32) r43 T91.heap n0 z104 Fe91 Fs91 Va91 (by decide) (by decide) rfl) hZ (hw _ (List.mem_of_getElem? (i := 79) rfl)) (hw _ (List.mem_of_getElem? (i := 3) rfl)) (by decide) (by decide)) q355a q355c (g := (mkF m 148 #[.val (.int p1), .val (.int p2), .val (.int p3), .val (.int p4), .val (.int p5), .val (.int p6), .val (.int N_), .val (.int (1 : Int32)), .val (.int (p3 ^^^ (-1 : Int32))), .val (.int (p4 ^^^ (-1 : Int32))), .val (.ref b1), .val (.int (own_at (1 : Int32) p3 p4 p5 p6 (p3 ^^^ (-1 : Int32)) (p4 ^^^ (-1 : Int32)))), .unset] [(.int (1 : Int32)), (.ref b1)])) rfl (by rw [hml]; rfl) (Steps.refl _) (argsL := [(.int (1 : Int32))]) (rest := []) (lenOf pd_8 rfl) rfl (by show 2 * 0 + _ ≤ _; exact Nat.le_of_eq rfl) (hb hby at_148) (fun _ _ => ⟨rfl, e353, (by decide : 5 + 0 ≤ _), (by decide : 10 + 0 ≤ _)⟩)
          dsimp only [Pt.U, Pt.locs, Pt.cells, Pt.slots] at X355 l355 y355 z355 st355 hQ355
          subst l355 y355 z355
          obtain ⟨rfl, N355q, e355⟩ := hQ355
          have N356 := Fr.app N354 N355q
          refine Go.via (S' := T355.setTop (mkF m 151 #[.val (.int p1), .val (.int p2), .val (.int p3), .val (.int p4), .val (.int p5), .val (.int p6), .val (.int N_), .val (.int (1 : Int32)), .val (.int (p3 ^^^ (-1 : Int32))), .val (.int (p4 ^^^ (-1 : Int32))), .val (.ref b1), .val (.int (own_at (1 : Int32) p3 p4 p5 p6 (p3 ^^^ (-1 : Int32)) (p4 ^^^ (-1 : Int32)))), .unset] [(.ref r43)])) (fun _ k => st355.trans k) ?_
          obtain ⟨T357, X357, e357, st357⟩ := castY X355 hx hZ hown (hw _ (List.mem_of_getElem? (i := 80) rfl)) e355 (Ins.self f100) (g := (mkF m 151 #[.val (.int p1), .val (.int p2), .val (.int p3), .val (.int p4), .val (.int p5), .val (.int p6), .val (.int N_), .val (.int (1 : Int32)), .val (.int (p3 ^^^ (-1 : Int32))), .val (.int (p4 ^^^ (-1 : Int32))), .val (.ref b1), .val (.int (own_at (1 : Int32) p3 p4 p5 p6 (p3 ^^^ (-1 : Int32)) (p4 ^^^ (-1 : Int32)))), .unset] [(.ref r43)])) rfl rfl (hb hby at_151)
          refine Go.via (S' := T357.setTop (mkF m 154 #[.val (.int p1), .val (.int p2), .val (.int p3), .val (.int p4), .val (.int p5), .val (.int p6), .val (.int N_), .val (.int (1 : Int32)), .val (.int (p3 ^^^ (-1 : Int32))), .val (.int (p4 ^^^ (-1 : Int32))), .val (.ref b1), .val (.int (own_at (1 : Int32) p3 p4 p5 p6 (p3 ^^^ (-1 : Int32)) (p4 ^^^ (-1 : Int32)))), .unset] [(.ref r43)])) (fun _ k => st357 _ k) ?_
          refine Go.via (S' := T357.setTop (mkF m 156 #[.val (.int p1), .val (.int p2), .val (.int p3), .val (.int p4), .val (.int p5), .val (.int p6), .val (.int N_), .val (.int (1 : Int32)), .val (.int (p3 ^^^ (-1 : Int32))), .val (.int (p4 ^^^ (-1 : Int32))), .val (.ref b1), .val (.int (own_at (1 : Int32) p3 p4 p5 p6 (p3 ^^^ (-1 : Int32)) (p4 ^^^ (-1 : Int32)))), .val (.ref r43)] [])) (fun _ k => XS.astore X357.here hx rfl (hb hby at_154) rfl rfl (l' := #[.val (.int p1), .val (.int p2), .val (.int p3), .val (.int p4), .val (.int p5), .val (.int p6), .val (.int N_), .val (.int (1 : Int32)), .val (.int (p3 ^^^ (-1 : Int32))), .val (.int (p4 ^^^ (-1 : Int32))), .val (.ref b1), .val (.int (own_at (1 : Int32) p3 p4 p5 p6 (p3 ^^^ (-1 : Int32)) (p4 ^^^ (-1 : Int32)))), .val (.ref r43)]) rfl k) ?_
          refine Go.via (S' := T357.setTop (mkF m 158 #[.val (.int p1), .val (.int p2), .val (.int p3), .val (.int p4), .val (.int p5), .val (.int p6), .val (.int N_), .val (.int (1 : Int32)), .val (.int (p3 ^^^ (-1 : Int32))), .val (.int (p4 ^^^ (-1 : Int32))), .val (.ref b1), .val (.int (own_at (1 : Int32) p3 p4 p5 p6 (p3 ^^^ (-1 : Int32)) (p4 ^^^ (-1 : Int32)))), .val (.ref r43)] [(.ref r43)])) (fun _ k => XS.aload X357.here hx rfl (hb hby at_156) rfl rfl k) ?_
          refine Go.via (S' := T357.setTop (mkF m 163 #[.val (.int p1), .val (.int p2), .val (.int p3), .val (.int p4), .val (.int p5), .val (.int p6), .val (.int N_), .val (.int (1 : Int32)), .val (.int (p3 ^^^ (-1 : Int32))), .val (.int (p4 ^^^ (-1 : Int32))), .val (.ref b1), .val (.int (own_at (1 : Int32) p3 p4 p5 p6 (p3 ^^^ (-1 : Int32)) (p4 ^^^ (-1 : Int32)))), .val (.ref r43)] [])) (fun _ k => XS.ifnonnullYes X357.here hx rfl (pc0 := 158) (pc' := 163) rfl (hb hby at_158) rfl (by decide) (by decide) k) ?_
          refine Go.via (S' := T357.setTop (mkF m 165 #[.val (.int p1), .val (.int p2), .val (.int p3), .val (.int p4), .val (.int p5), .val (.int p6), .val (.int N_), .val (.int (1 : Int32)), .val (.int (p3 ^^^ (-1 : Int32))), .val (.int (p4 ^^^ (-1 : Int32))), .val (.ref b1), .val (.int (own_at (1 : Int32) p3 p4 p5 p6 (p3 ^^^ (-1 : Int32)) (p4 ^^^ (-1 : Int32)))), .val (.ref r43)] [(.ref r43)])) (fun _ k => XS.aload X357.here hx rfl (hb hby at_163) rfl rfl k) ?_
          obtain ⟨cq358, kq358, q358a, q358b, q358c⟩ := isOf hZ e357 f100
          obtain ⟨_, _, ⟨T358, L358, k358, n358⟩, -, X358, ⟨Lc358, hQ358, l358, y358, z358⟩, st358⟩ := X357.virtualBack hx (y := (⟨"java/lang/Integer", "intValue", "()I"⟩ : MethodName)) (z := (⟨"java/lang/Integer", "intValue", "()I"⟩ : MethodName)) hown (mvT hZ (hw _ (List.mem_of_getElem? (i := 82) rfl))) (mvT hZ (hw _ (List.mem_of_getElem? (i := 83) rfl))) (notFace_of_selects (args := #[]) (mvT hZ (hw _ (List.mem_of_getElem? (i := 85) rfl)))) (mvT hZ (hw _ (List.mem_of_getElem? (i := 85) rfl))) (mvT hZ (hw _ (List.mem_of_getElem? (i := 84) rfl))) (by decide) (backOf (W := 0) (rm13 l Z a0 hw [] r43 p4 T91.heap n0 z104 f101) hZ (hw _ (List.mem_of_getElem? (i := 86) rfl)) (hw _ (List.mem_of_getElem? (i := 29) rfl)) (by decide) (by decide)) q358a q358c (g := (mkF m 165 #[.val (.int p1), .val (.int p2), .val (.int p3), .val (.int p4), .val (.int p5), .val (.int p6), .val (.int N_), .val (.int (1 : Int32)), .val (.int (p3 ^^^ (-1 : Int32))), .val (.int (p4 ^^^ (-1 : Int32))), .val (.ref b1), .val (.int (own_at (1 : Int32) p3 p4 p5 p6 (p3 ^^^ (-1 : Int32)) (p4 ^^^ (-1 : Int32)))), .val (.ref r43)] [(.ref r43)])) rfl (by rw [hml]; rfl) (Steps.refl _) (argsL := []) (rest := []) (lenOf pd_9 rfl) rfl (by show 2 * 0 + _ ≤ _; exact Nat.le_of_eq rfl) (hb hby at_165) (fun _ _ => ⟨rfl, e357, (by decide : 5 + 0 ≤ _), (by decide : 10 + 0 ≤ _)⟩)
          dsimp only [Pt.U, Pt.locs, Pt.cells, Pt.slots] at X358 l358 y358 z358 st358 hQ358
          subst l358 y358 z358
          obtain ⟨rfl, N358q, e358⟩ := hQ358
          have N359 := Fr.app N356 N358q
          refine Go.via (S' := T358.setTop (mkF m 168 #[.val (.int p1), .val (.int p2), .val (.int p3), .val (.int p4), .val (.int p5), .val (.int p6), .val (.int N_), .val (.int (1 : Int32)), .val (.int (p3 ^^^ (-1 : Int32))), .val (.int (p4 ^^^ (-1 : Int32))), .val (.ref b1), .val (.int (own_at (1 : Int32) p3 p4 p5 p6 (p3 ^^^ (-1 : Int32)) (p4 ^^^ (-1 : Int32)))), .val (.ref r43)] [(.int p4)])) (fun _ k => st358.trans k) ?_
          refine Go.via (S' := T358.setTop (mkF m 170 #[.val (.int p1), .val (.int p2), .val (.int p3), .val (.int p4), .val (.int p5), .val (.int p6), .val (.int N_), .val (.int (1 : Int32)), .val (.int (p3 ^^^ (-1 : Int32))), .val (.int (p4 ^^^ (-1 : Int32))), .val (.ref b1), .val (.int (own_at (1 : Int32) p3 p4 p5 p6 (p3 ^^^ (-1 : Int32)) (p4 ^^^ (-1 : Int32)))), .val (.ref r43)] [(.int (own_at (1 : Int32) p3 p4 p5 p6 (p3 ^^^ (-1 : Int32)) (p4 ^^^ (-1 : Int32)))), (.int p4)])) (fun _ k => XS.iload X358.here hx rfl (hb hby at_168) rfl k) ?_
          refine Go.via (S' := T358.setTop (mkF m 173 #[.val (.int p1), .val (.int p2), .val (.int p3), .val (.int p4), .val (.int p5), .val (.int p6), .val (.int N_), .val (.int (1 : Int32)), .val (.int (p3 ^^^ (-1 : Int32))), .val (.int (p4 ^^^ (-1 : Int32))), .val (.ref b1), .val (.int (own_at (1 : Int32) p3 p4 p5 p6 (p3 ^^^ (-1 : Int32)) (p4 ^^^ (-1 : Int32)))), .val (.ref r43)] [])) (fun _ k => XS.icmpNo X358.here hx rfl (hb hby at_170) rfl (teq (by simp [own_at])).2 k) ?_
          refine Go.via (S' := T358.setTop (mkF m 174 #[.val (.int p1), .val (.int p2), .val (.int p3), .val (.int p4), .val (.int p5), .val (.int p6), .val (.int N_), .val (.int (1 : Int32)), .val (.int (p3 ^^^ (-1 : Int32))), .val (.int (p4 ^^^ (-1 : Int32))), .val (.ref b1), .val (.int (own_at (1 : Int32) p3 p4 p5 p6 (p3 ^^^ (-1 : Int32)) (p4 ^^^ (-1 : Int32)))), .val (.ref r43)] [(.int (1 : Int32))])) (fun _ k => XS.iconst X358.here hx rfl (hb hby at_173) k) ?_
          refine Go.via (S' := T358.setTop (mkF m 178 #[.val (.int p1), .val (.int p2), .val (.int p3), .val (.int p4), .val (.int p5), .val (.int p6), .val (.int N_), .val (.int (1 : Int32)), .val (.int (p3 ^^^ (-1 : Int32))), .val (.int (p4 ^^^ (-1 : Int32))), .val (.ref b1), .val (.int (own_at (1 : Int32) p3 p4 p5 p6 (p3 ^^^ (-1 : Int32)) (p4 ^^^ (-1 : Int32)))), .val (.ref r43)] [(.int (1 : Int32))])) (fun _ k => XS.goto X358.here hx rfl (pc0 := 174) (pc' := 178) rfl (hb hby at_174) (by decide) (by decide) k) ?_
          exact Go.retB X358 hx (BodyLoose.notSynchronized Bd) Bd.returns (hb hby at_178) rfl (by rw [e358]; exact ⟨rfl, N359⟩) (by decide) (by decide)
        · obtain rfl : I_ = (2 : Int32) := Int32.toInt_inj.mp hi
          refine Go.via (S' := T91.setTop (mkF m 129 #[.val (.int p1), .val (.int p2), .val (.int p3), .val (.int p4), .val (.int p5), .val (.int p6), .val (.int N_), .val (.int (2 : Int32)), .val (.int (p3 ^^^ (-1 : Int32))), .val (.int (p4 ^^^ (-1 : Int32))), .val (.ref b1), .unset, .unset] [(.int (2 : Int32))])) (fun _ k => XS.iload X91.here hx rfl (hb hby at_127) rfl k) ?_
          refine Go.via (S' := T91.setTop (mkF m 130 #[.val (.int p1), .val (.int p2), .val (.int p3), .val (.int p4), .val (.int p5), .val (.int p6), .val (.int N_), .val (.int (2 : Int32)), .val (.int (p3 ^^^ (-1 : Int32))), .val (.int (p4 ^^^ (-1 : Int32))), .val (.ref b1), .unset, .unset] [(.int p3), (.int (2 : Int32))])) (fun _ k => XS.iloadN X91.here hx rfl (hb hby at_129) rfl k) ?_
          refine Go.via (S' := T91.setTop (mkF m 131 #[.val (.int p1), .val (.int p2), .val (.int p3), .val (.int p4), .val (.int p5), .val (.int p6), .val (.int N_), .val (.int (2 : Int32)), .val (.int (p3 ^^^ (-1 : Int32))), .val (.int (p4 ^^^ (-1 : Int32))), .val (.ref b1), .unset, .unset] [(.int p4), (.int p3), (.int (2 : Int32))])) (fun _ k => XS.iloadN X91.here hx rfl (hb hby at_130) rfl k) ?_
          refine Go.via (S' := T91.setTop (mkF m 133 #[.val (.int p1), .val (.int p2), .val (.int p3), .val (.int p4), .val (.int p5), .val (.int p6), .val (.int N_), .val (.int (2 : Int32)), .val (.int (p3 ^^^ (-1 : Int32))), .val (.int (p4 ^^^ (-1 : Int32))), .val (.ref b1), .unset, .unset] [(.int p5), (.int p4), (.int p3), (.int (2 : Int32))])) (fun _ k => XS.iload X91.here hx rfl (hb hby at_131) rfl k) ?_
          refine Go.via (S' := T91.setTop (mkF m 135 #[.val (.int p1), .val (.int p2), .val (.int p3), .val (.int p4), .val (.int p5), .val (.int p6), .val (.int N_), .val (.int (2 : Int32)), .val (.int (p3 ^^^ (-1 : Int32))), .val (.int (p4 ^^^ (-1 : Int32))), .val (.ref b1), .unset, .unset] [(.int p6), (.int p5), (.int p4), (.int p3), (.int (2 : Int32))])) (fun _ k => XS.iload X91.here hx rfl (hb hby at_133) rfl k) ?_
          refine Go.via (S' := T91.setTop (mkF m 137 #[.val (.int p1), .val (.int p2), .val (.int p3), .val (.int p4), .val (.int p5), .val (.int p6), .val (.int N_), .val (.int (2 : Int32)), .val (.int (p3 ^^^ (-1 : Int32))), .val (.int (p4 ^^^ (-1 : Int32))), .val (.ref b1), .unset, .unset] [(.int (p3 ^^^ (-1 : Int32))), (.int p6), (.int p5), (.int p4), (.int p3), (.int (2 : Int32))])) (fun _ k => XS.iload X91.here hx rfl (hb hby at_135) rfl k) ?_
          refine Go.via (S' := T91.setTop (mkF m 139 #[.val (.int p1), .val (.int p2), .val (.int p3), .val (.int p4), .val (.int p5), .val (.int p6), .val (.int N_), .val (.int (2 : Int32)), .val (.int (p3 ^^^ (-1 : Int32))), .val (.int (p4 ^^^ (-1 : Int32))), .val (.ref b1), .unset, .unset] [(.int (p4 ^^^ (-1 : Int32))), (.int (p3 ^^^ (-1 : Int32))), (.int p6), (.int p5), (.int p4), (.int p3), (.int (2 : Int32))])) (fun _ k => XS.iload X91.here hx rfl (hb hby at_137) rfl k) ?_
          obtain ⟨_, _, ⟨T360, L360, k360, n360⟩, -, X360, ⟨Lc360, hQ360, l360, y360, z360⟩, st360⟩ := Jvm.LawKit.callS X91 hx (y := (⟨"com/example/tidegraph/tidegraph/graph/ElementListGetPinLaw", "expectedAt", "(IIIIIII)I"⟩ : MethodName)) hown (mvT hZ (hw _ (List.mem_of_getElem? (i := 71) rfl))) (mvT hZ (hw _ (List.mem_of_getElem? (i := 72) rfl))) (mvT hZ (hw _ (List.mem_of_getElem? (i := 73) rfl))) (mvT hZ (hw _ (List.mem_of_getElem? (i := 74) rfl))) (by decide) (backOf (W := 0) (rm11 l Z a0 hw [] (2 : Int32) p3 p4 p5 p6 (p3 ^^^ (-1 : Int32)) (p4 ^^^ (-1 : Int32)) T91.heap n0 z104) hZ (hw _ (List.mem_of_getElem? (i := 74) rfl)) (hw _ (List.mem_of_getElem? (i := 73) rfl)) (by decide) (by decide)) (g := (mkF m 139 #[.val (.int p1), .val (.int p2), .val (.int p3), .val (.int p4), .val (.int p5), .val (.int p6), .val (.int N_), .val (.int (2 : Int32)), .val (.int (p3 ^^^ (-1 : Int32))), .val (.int (p4 ^^^ (-1 : Int32))), .val (.ref b1), .unset, .unset] [(.int (p4 ^^^ (-1 : Int32))), (.int (p3 ^^^ (-1 : Int32))), (.int p6), (.int p5), (.int p4), (.int p3), (.int (2 : Int32))])) rfl (by rw [hml]; rfl) (argsL := [(.int (2 : Int32)), (.int p3), (.int p4), (.int p5), (.int p6), (.int (p3 ^^^ (-1 : Int32))), (.int (p4 ^^^ (-1 : Int32)))]) (rest := []) (lenOf pd_7 rfl) rfl (by show 2 * 0 + _ ≤ _; exact Nat.le_of_eq rfl) (hb hby at_139) (fun _ _ => ⟨rfl, rfl, (by decide : 5 + 0 ≤ _), (by decide : 10 + 0 ≤ _)⟩)
          dsimp only [Pt.U, Pt.locs, Pt.cells, Pt.slots] at X360 l360 y360 z360 st360 hQ360
          subst l360 y360 z360
          obtain ⟨rfl, N360q, e360⟩ := hQ360
          have N361 := Fr.app N92 N360q
          refine Go.via (S' := T360.setTop (mkF m 142 #[.val (.int p1), .val (.int p2), .val (.int p3), .val (.int p4), .val (.int p5), .val (.int p6), .val (.int N_), .val (.int (2 : Int32)), .val (.int (p3 ^^^ (-1 : Int32))), .val (.int (p4 ^^^ (-1 : Int32))), .val (.ref b1), .unset, .unset] [(.int (own_at (2 : Int32) p3 p4 p5 p6 (p3 ^^^ (-1 : Int32)) (p4 ^^^ (-1 : Int32))))])) (fun _ k => st360 _ k) ?_
          refine Go.via (S' := T360.setTop (mkF m 144 #[.val (.int p1), .val (.int p2), .val (.int p3), .val (.int p4), .val (.int p5), .val (.int p6), .val (.int N_), .val (.int (2 : Int32)), .val (.int (p3 ^^^ (-1 : Int32))), .val (.int (p4 ^^^ (-1 : Int32))), .val (.ref b1), .val (.int (own_at (2 : Int32) p3 p4 p5 p6 (p3 ^^^ (-1 : Int32)) (p4 ^^^ (-1 : Int32)))), .unset] [])) (fun _ k => XS.istore X360.here hx rfl (hb hby at_142) rfl (l' := #[.val (.int p1), .val (.int p2), .val (.int p3), .val (.int p4), .val (.int p5), .val (.int p6), .val (.int N_), .val (.int (2 : Int32)), .val (.int (p3 ^^^ (-1 : Int32))), .val (.int (p4 ^^^ (-1 : Int32))), .val (.ref b1), .val (.int (own_at (2 : Int32) p3 p4 p5 p6 (p3 ^^^ (-1 : Int32)) (p4 ^^^ (-1 : Int32)))), .unset]) rfl k) ?_
          refine Go.via (S' := T360.setTop (mkF m 146 #[.val (.int p1), .val (.int p2), .val (.int p3), .val (.int p4), .val (.int p5), .val (.int p6), .val (.int N_), .val (.int (2 : Int32)), .val (.int (p3 ^^^ (-1 : Int32))), .val (.int (p4 ^^^ (-1 : Int32))), .val (.ref b1), .val (.int (own_at (2 : Int32) p3 p4 p5 p6 (p3 ^^^ (-1 : Int32)) (p4 ^^^ (-1 : Int32)))), .unset] [(.ref b1)])) (fun _ k => XS.aload X360.here hx rfl (hb hby at_144) rfl rfl k) ?_
          refine Go.via (S' := T360.setTop (mkF m 148 #[.val (.int p1), .val (.int p2), .val (.int p3), .val (.int p4), .val (.int p5), .val (.int p6), .val (.int N_), .val (.int (2 : Int32)), .val (.int (p3 ^^^ (-1 : Int32))), .val (.int (p4 ^^^ (-1 : Int32))), .val (.ref b1), .val (.int (own_at (2 : Int32) p3 p4 p5 p6 (p3 ^^^ (-1 : Int32)) (p4 ^^^ (-1 : Int32)))), .unset] [(.int (2 : Int32)), (.ref b1)])) (fun _ k => XS.iload X360.here hx rfl (hb hby at_146) rfl k) ?_
          obtain ⟨cq362, kq362, q362a, q362b, q362c⟩ := isOf hZ e360 f96
          obtain ⟨_, _, ⟨T362, L362, k362, n362⟩, -, X362, ⟨Lc362, hQ362, l362, y362, z362⟩, st362⟩ := X360.virtualBack hx (y := (⟨"com/example/tidegraph/tidegraph/graph/ElementList", "get", "(I)Ljava/lang/Object;"⟩ : MethodName)) (z := (⟨"com/example/tidegraph/tidegraph/graph/ElementList", "get", "(I)Ljava/lang/Object;"⟩ : MethodName)) hown (mvT hZ (hw _ (List.mem_of_getElem? (i := 75) rfl))) (mvT hZ (hw _ (List.mem_of_getElem? (i := 76) rfl))) (notFace_of_selects (args := #[]) (mvT hZ (hw _ (List.mem_of_getElem? (i := 78) rfl)))) (mvT hZ (hw _ (List.mem_of_getElem? (i := 78) rfl))) (mvT hZ (hw _ (List.mem_of_getElem? (i := 77) rfl))) (by decide) (backOf (W := 0) (rm12 l Z a0 hw [] b1 (2 : Int32) ar31 k231 (4 : Int32) [(.ref r18), (.ref r43), (.ref r72), .null] (3 : Int32) r72 T91.heap n0 z104 Fe91 Fs91 Va91 (by decide) (by decide) rfl) hZ (hw _ (List.mem_of_getElem? (i := 79) rfl)) (hw _ (List.mem_of_getElem? (i := 3) rfl)) (by decide) (by decide)) q362a q362c (g := (mkF m 148 #[.val (.int p1), .val (.int p2), .val (.int p3), .val (.int p4), .val (.int p5), .val (.int p6), .val (.int N_), .val (.int (2 : Int32)), .val (.int (p3 ^^^ (-1 : Int32))), .val (.int (p4 ^^^ (-1 : Int32))), .val (.ref b1), .val (.int (own_at (2 : Int32) p3 p4 p5 p6 (p3 ^^^ (-1 : Int32)) (p4 ^^^ (-1 : Int32)))), .unset] [(.int (2 : Int32)), (.ref b1)])) rfl (by rw [hml]; rfl) (Steps.refl _) (argsL := [(.int (2 : Int32))]) (rest := []) (lenOf pd_8 rfl) rfl (by show 2 * 0 + _ ≤ _; exact Nat.le_of_eq rfl) (hb hby at_148) (fun _ _ => ⟨rfl, e360, (by decide : 5 + 0 ≤ _), (by decide : 10 + 0 ≤ _)⟩)
          dsimp only [Pt.U, Pt.locs, Pt.cells, Pt.slots] at X362 l362 y362 z362 st362 hQ362
          subst l362 y362 z362
          obtain ⟨rfl, N362q, e362⟩ := hQ362
          have N363 := Fr.app N361 N362q
          refine Go.via (S' := T362.setTop (mkF m 151 #[.val (.int p1), .val (.int p2), .val (.int p3), .val (.int p4), .val (.int p5), .val (.int p6), .val (.int N_), .val (.int (2 : Int32)), .val (.int (p3 ^^^ (-1 : Int32))), .val (.int (p4 ^^^ (-1 : Int32))), .val (.ref b1), .val (.int (own_at (2 : Int32) p3 p4 p5 p6 (p3 ^^^ (-1 : Int32)) (p4 ^^^ (-1 : Int32)))), .unset] [(.ref r72)])) (fun _ k => st362.trans k) ?_
          obtain ⟨T364, X364, e364, st364⟩ := castY X362 hx hZ hown (hw _ (List.mem_of_getElem? (i := 80) rfl)) e362 (Ins.self f102) (g := (mkF m 151 #[.val (.int p1), .val (.int p2), .val (.int p3), .val (.int p4), .val (.int p5), .val (.int p6), .val (.int N_), .val (.int (2 : Int32)), .val (.int (p3 ^^^ (-1 : Int32))), .val (.int (p4 ^^^ (-1 : Int32))), .val (.ref b1), .val (.int (own_at (2 : Int32) p3 p4 p5 p6 (p3 ^^^ (-1 : Int32)) (p4 ^^^ (-1 : Int32)))), .unset] [(.ref r72)])) rfl rfl (hb hby at_151)
          refine Go.via (S' := T364.setTop (mkF m 154 #[.val (.int p1), .val (.int p2), .val (.int p3), .val (.int p4), .val (.int p5), .val (.int p6), .val (.int N_), .val (.int (2 : Int32)), .val (.int (p3 ^^^ (-1 : Int32))), .val (.int (p4 ^^^ (-1 : Int32))), .val (.ref b1), .val (.int (own_at (2 : Int32) p3 p4 p5 p6 (p3 ^^^ (-1 : Int32)) (p4 ^^^ (-1 : Int32)))), .unset] [(.ref r72)])) (fun _ k => st364 _ k) ?_
          refine Go.via (S' := T364.setTop (mkF m 156 #[.val (.int p1), .val (.int p2), .val (.int p3), .val (.int p4), .val (.int p5), .val (.int p6), .val (.int N_), .val (.int (2 : Int32)), .val (.int (p3 ^^^ (-1 : Int32))), .val (.int (p4 ^^^ (-1 : Int32))), .val (.ref b1), .val (.int (own_at (2 : Int32) p3 p4 p5 p6 (p3 ^^^ (-1 : Int32)) (p4 ^^^ (-1 : Int32)))), .val (.ref r72)] [])) (fun _ k => XS.astore X364.here hx rfl (hb hby at_154) rfl rfl (l' := #[.val (.int p1), .val (.int p2), .val (.int p3), .val (.int p4), .val (.int p5), .val (.int p6), .val (.int N_), .val (.int (2 : Int32)), .val (.int (p3 ^^^ (-1 : Int32))), .val (.int (p4 ^^^ (-1 : Int32))), .val (.ref b1), .val (.int (own_at (2 : Int32) p3 p4 p5 p6 (p3 ^^^ (-1 : Int32)) (p4 ^^^ (-1 : Int32)))), .val (.ref r72)]) rfl k) ?_
          refine Go.via (S' := T364.setTop (mkF m 158 #[.val (.int p1), .val (.int p2), .val (.int p3), .val (.int p4), .val (.int p5), .val (.int p6), .val (.int N_), .val (.int (2 : Int32)), .val (.int (p3 ^^^ (-1 : Int32))), .val (.int (p4 ^^^ (-1 : Int32))), .val (.ref b1), .val (.int (own_at (2 : Int32) p3 p4 p5 p6 (p3 ^^^ (-1 : Int32)) (p4 ^^^ (-1 : Int32)))), .val (.ref r72)] [(.ref r72)])) (fun _ k => XS.aload X364.here hx rfl (hb hby at_156) rfl rfl k) ?_
          refine Go.via (S' := T364.setTop (mkF m 163 #[.val (.int p1), .val (.int p2), .val (.int p3), .val (.int p4), .val (.int p5), .val (.int p6), .val (.int N_), .val (.int (2 : Int32)), .val (.int (p3 ^^^ (-1 : Int32))), .val (.int (p4 ^^^ (-1 : Int32))), .val (.ref b1), .val (.int (own_at (2 : Int32) p3 p4 p5 p6 (p3 ^^^ (-1 : Int32)) (p4 ^^^ (-1 : Int32)))), .val (.ref r72)] [])) (fun _ k => XS.ifnonnullYes X364.here hx rfl (pc0 := 158) (pc' := 163) rfl (hb hby at_158) rfl (by decide) (by decide) k) ?_
          refine Go.via (S' := T364.setTop (mkF m 165 #[.val (.int p1), .val (.int p2), .val (.int p3), .val (.int p4), .val (.int p5), .val (.int p6), .val (.int N_), .val (.int (2 : Int32)), .val (.int (p3 ^^^ (-1 : Int32))), .val (.int (p4 ^^^ (-1 : Int32))), .val (.ref b1), .val (.int (own_at (2 : Int32) p3 p4 p5 p6 (p3 ^^^ (-1 : Int32)) (p4 ^^^ (-1 : Int32)))), .val (.ref r72)] [(.ref r72)])) (fun _ k => XS.aload X364.here hx rfl (hb hby at_163) rfl rfl k) ?_
          obtain ⟨cq365, kq365, q365a, q365b, q365c⟩ := isOf hZ e364 f102
          obtain ⟨_, _, ⟨T365, L365, k365, n365⟩, -, X365, ⟨Lc365, hQ365, l365, y365, z365⟩, st365⟩ := X364.virtualBack hx (y := (⟨"java/lang/Integer", "intValue", "()I"⟩ : MethodName)) (z := (⟨"java/lang/Integer", "intValue", "()I"⟩ : MethodName)) hown (mvT hZ (hw _ (List.mem_of_getElem? (i := 82) rfl))) (mvT hZ (hw _ (List.mem_of_getElem? (i := 83) rfl))) (notFace_of_selects (args := #[]) (mvT hZ (hw _ (List.mem_of_getElem? (i := 85) rfl)))) (mvT hZ (hw _ (List.mem_of_getElem? (i := 85) rfl))) (mvT hZ (hw _ (List.mem_of_getElem? (i := 84) rfl))) (by decide) (backOf (W := 0) (rm13 l Z a0 hw [] r72 p5 T91.heap n0 z104 f103) hZ (hw _ (List.mem_of_getElem? (i := 86) rfl)) (hw _ (List.mem_of_getElem? (i := 29) rfl)) (by decide) (by decide)) q365a q365c (g := (mkF m 165 #[.val (.int p1), .val (.int p2), .val (.int p3), .val (.int p4), .val (.int p5), .val (.int p6), .val (.int N_), .val (.int (2 : Int32)), .val (.int (p3 ^^^ (-1 : Int32))), .val (.int (p4 ^^^ (-1 : Int32))), .val (.ref b1), .val (.int (own_at (2 : Int32) p3 p4 p5 p6 (p3 ^^^ (-1 : Int32)) (p4 ^^^ (-1 : Int32)))), .val (.ref r72)] [(.ref r72)])) rfl (by rw [hml]; rfl) (Steps.refl _) (argsL := []) (rest := []) (lenOf pd_9 rfl) rfl (by show 2 * 0 + _ ≤ _; exact Nat.le_of_eq rfl) (hb hby at_165) (fun _ _ => ⟨rfl, e364, (by decide : 5 + 0 ≤ _), (by decide : 10 + 0 ≤ _)⟩)
          dsimp only [Pt.U, Pt.locs, Pt.cells, Pt.slots] at X365 l365 y365 z365 st365 hQ365
          subst l365 y365 z365
          obtain ⟨rfl, N365q, e365⟩ := hQ365
          have N366 := Fr.app N363 N365q
          refine Go.via (S' := T365.setTop (mkF m 168 #[.val (.int p1), .val (.int p2), .val (.int p3), .val (.int p4), .val (.int p5), .val (.int p6), .val (.int N_), .val (.int (2 : Int32)), .val (.int (p3 ^^^ (-1 : Int32))), .val (.int (p4 ^^^ (-1 : Int32))), .val (.ref b1), .val (.int (own_at (2 : Int32) p3 p4 p5 p6 (p3 ^^^ (-1 : Int32)) (p4 ^^^ (-1 : Int32)))), .val (.ref r72)] [(.int p5)])) (fun _ k => st365.trans k) ?_
          refine Go.via (S' := T365.setTop (mkF m 170 #[.val (.int p1), .val (.int p2), .val (.int p3), .val (.int p4), .val (.int p5), .val (.int p6), .val (.int N_), .val (.int (2 : Int32)), .val (.int (p3 ^^^ (-1 : Int32))), .val (.int (p4 ^^^ (-1 : Int32))), .val (.ref b1), .val (.int (own_at (2 : Int32) p3 p4 p5 p6 (p3 ^^^ (-1 : Int32)) (p4 ^^^ (-1 : Int32)))), .val (.ref r72)] [(.int (own_at (2 : Int32) p3 p4 p5 p6 (p3 ^^^ (-1 : Int32)) (p4 ^^^ (-1 : Int32)))), (.int p5)])) (fun _ k => XS.iload X365.here hx rfl (hb hby at_168) rfl k) ?_
          refine Go.via (S' := T365.setTop (mkF m 173 #[.val (.int p1), .val (.int p2), .val (.int p3), .val (.int p4), .val (.int p5), .val (.int p6), .val (.int N_), .val (.int (2 : Int32)), .val (.int (p3 ^^^ (-1 : Int32))), .val (.int (p4 ^^^ (-1 : Int32))), .val (.ref b1), .val (.int (own_at (2 : Int32) p3 p4 p5 p6 (p3 ^^^ (-1 : Int32)) (p4 ^^^ (-1 : Int32)))), .val (.ref r72)] [])) (fun _ k => XS.icmpNo X365.here hx rfl (hb hby at_170) rfl (teq (by simp [own_at])).2 k) ?_
          refine Go.via (S' := T365.setTop (mkF m 174 #[.val (.int p1), .val (.int p2), .val (.int p3), .val (.int p4), .val (.int p5), .val (.int p6), .val (.int N_), .val (.int (2 : Int32)), .val (.int (p3 ^^^ (-1 : Int32))), .val (.int (p4 ^^^ (-1 : Int32))), .val (.ref b1), .val (.int (own_at (2 : Int32) p3 p4 p5 p6 (p3 ^^^ (-1 : Int32)) (p4 ^^^ (-1 : Int32)))), .val (.ref r72)] [(.int (1 : Int32))])) (fun _ k => XS.iconst X365.here hx rfl (hb hby at_173) k) ?_
          refine Go.via (S' := T365.setTop (mkF m 178 #[.val (.int p1), .val (.int p2), .val (.int p3), .val (.int p4), .val (.int p5), .val (.int p6), .val (.int N_), .val (.int (2 : Int32)), .val (.int (p3 ^^^ (-1 : Int32))), .val (.int (p4 ^^^ (-1 : Int32))), .val (.ref b1), .val (.int (own_at (2 : Int32) p3 p4 p5 p6 (p3 ^^^ (-1 : Int32)) (p4 ^^^ (-1 : Int32)))), .val (.ref r72)] [(.int (1 : Int32))])) (fun _ k => XS.goto X365.here hx rfl (pc0 := 174) (pc' := 178) rfl (hb hby at_174) (by decide) (by decide) k) ?_
          exact Go.retB X365 hx (BodyLoose.notSynchronized Bd) Bd.returns (hb hby at_178) rfl (by rw [e365]; exact ⟨rfl, N366⟩) (by decide) (by decide)
    · refine Go.via (S' := T60.setTop (mkF m 79 #[.val (.int p1), .val (.int p2), .val (.int p3), .val (.int p4), .val (.int p5), .val (.int p6), .val (.int N_), .val (.int I_), .val (.int (p3 ^^^ (-1 : Int32))), .val (.int (p4 ^^^ (-1 : Int32))), .val (.ref b1), .unset, .unset] [])) (fun _ k => XS.icmpYes X60.here hx rfl (pc0 := 66) (pc' := 79) rfl (hb hby at_66) rfl (flt hc66).2.2.2 (by decide) (by decide) k) ?_
      refine Go.via (S' := T60.setTop (mkF m 81 #[.val (.int p1), .val (.int p2), .val (.int p3), .val (.int p4), .val (.int p5), .val (.int p6), .val (.int N_), .val (.int I_), .val (.int (p3 ^^^ (-1 : Int32))), .val (.int (p4 ^^^ (-1 : Int32))), .val (.ref b1), .unset, .unset] [(.int N_)])) (fun _ k => XS.iload X60.here hx rfl (hb hby at_79) rfl k) ?_
      refine Go.via (S' := T60.setTop (mkF m 82 #[.val (.int p1), .val (.int p2), .val (.int p3), .val (.int p4), .val (.int p5), .val (.int p6), .val (.int N_), .val (.int I_), .val (.int (p3 ^^^ (-1 : Int32))), .val (.int (p4 ^^^ (-1 : Int32))), .val (.ref b1), .unset, .unset] [(.int (3 : Int32)), (.int N_)])) (fun _ k => XS.iconst X60.here hx rfl (hb hby at_81) k) ?_
      refine Go.via (S' := T60.setTop (mkF m 95 #[.val (.int p1), .val (.int p2), .val (.int p3), .val (.int p4), .val (.int p5), .val (.int p6), .val (.int N_), .val (.int I_), .val (.int (p3 ^^^ (-1 : Int32))), .val (.int (p4 ^^^ (-1 : Int32))), .val (.ref b1), .unset, .unset] [])) (fun _ k => XS.icmpYes X60.here hx rfl (pc0 := 82) (pc' := 95) rfl (hb hby at_82) rfl (flt (fun q => by rw [Int32.lt_iff_toInt_lt] at hc66 q; revert q hc66; show ¬ (2 < N_.toInt) → 3 < N_.toInt → False; omega)).2.2.2 (by decide) (by decide) k) ?_
      refine Go.via (S' := T60.setTop (mkF m 97 #[.val (.int p1), .val (.int p2), .val (.int p3), .val (.int p4), .val (.int p5), .val (.int p6), .val (.int N_), .val (.int I_), .val (.int (p3 ^^^ (-1 : Int32))), .val (.int (p4 ^^^ (-1 : Int32))), .val (.ref b1), .unset, .unset] [(.int N_)])) (fun _ k => XS.iload X60.here hx rfl (hb hby at_95) rfl k) ?_
      refine Go.via (S' := T60.setTop (mkF m 98 #[.val (.int p1), .val (.int p2), .val (.int p3), .val (.int p4), .val (.int p5), .val (.int p6), .val (.int N_), .val (.int I_), .val (.int (p3 ^^^ (-1 : Int32))), .val (.int (p4 ^^^ (-1 : Int32))), .val (.ref b1), .unset, .unset] [(.int (4 : Int32)), (.int N_)])) (fun _ k => XS.iconst X60.here hx rfl (hb hby at_97) k) ?_
      refine Go.via (S' := T60.setTop (mkF m 111 #[.val (.int p1), .val (.int p2), .val (.int p3), .val (.int p4), .val (.int p5), .val (.int p6), .val (.int N_), .val (.int I_), .val (.int (p3 ^^^ (-1 : Int32))), .val (.int (p4 ^^^ (-1 : Int32))), .val (.ref b1), .unset, .unset] [])) (fun _ k => XS.icmpYes X60.here hx rfl (pc0 := 98) (pc' := 111) rfl (hb hby at_98) rfl (flt (fun q => by rw [Int32.lt_iff_toInt_lt] at hc66 q; revert q hc66; show ¬ (2 < N_.toInt) → 4 < N_.toInt → False; omega)).2.2.2 (by decide) (by decide) k) ?_
      refine Go.via (S' := T60.setTop (mkF m 113 #[.val (.int p1), .val (.int p2), .val (.int p3), .val (.int p4), .val (.int p5), .val (.int p6), .val (.int N_), .val (.int I_), .val (.int (p3 ^^^ (-1 : Int32))), .val (.int (p4 ^^^ (-1 : Int32))), .val (.ref b1), .unset, .unset] [(.int N_)])) (fun _ k => XS.iload X60.here hx rfl (hb hby at_111) rfl k) ?_
      refine Go.via (S' := T60.setTop (mkF m 114 #[.val (.int p1), .val (.int p2), .val (.int p3), .val (.int p4), .val (.int p5), .val (.int p6), .val (.int N_), .val (.int I_), .val (.int (p3 ^^^ (-1 : Int32))), .val (.int (p4 ^^^ (-1 : Int32))), .val (.ref b1), .unset, .unset] [(.int (5 : Int32)), (.int N_)])) (fun _ k => XS.iconst X60.here hx rfl (hb hby at_113) k) ?_
      refine Go.via (S' := T60.setTop (mkF m 127 #[.val (.int p1), .val (.int p2), .val (.int p3), .val (.int p4), .val (.int p5), .val (.int p6), .val (.int N_), .val (.int I_), .val (.int (p3 ^^^ (-1 : Int32))), .val (.int (p4 ^^^ (-1 : Int32))), .val (.ref b1), .unset, .unset] [])) (fun _ k => XS.icmpYes X60.here hx rfl (pc0 := 114) (pc' := 127) rfl (hb hby at_114) rfl (flt (fun q => by rw [Int32.lt_iff_toInt_lt] at hc66 q; revert q hc66; show ¬ (2 < N_.toInt) → 5 < N_.toInt → False; omega)).2.2.2 (by decide) (by decide) k) ?_
      have hm : I_.toInt < 2 := by
        have t51 : 1 < N_.toInt := by rw [Int32.lt_iff_toInt_lt] at hc51; exact hc51
        have t66 : ¬ (2 < N_.toInt) := by rw [Int32.lt_iff_toInt_lt] at hc66; exact hc66
        have := hN.2
        have := hI.2
        omega
      rcases (by have := hI.1; omega : I_.toInt = 0 ∨ I_.toInt = 1) with hi | hi
      · obtain rfl : I_ = (0 : Int32) := Int32.toInt_inj.mp hi
        refine Go.via (S' := T60.setTop (mkF m 129 #[.val (.int p1), .val (.int p2), .val (.int p3), .val (.int p4), .val (.int p5), .val (.int p6), .val (.int N_), .val (.int (0 : Int32)), .val (.int (p3 ^^^ (-1 : Int32))), .val (.int (p4 ^^^ (-1 : Int32))), .val (.ref b1), .unset, .unset] [(.int (0 : Int32))])) (fun _ k => XS.iload X60.here hx rfl (hb hby at_127) rfl k) ?_
        refine Go.via (S' := T60.setTop (mkF m 130 #[.val (.int p1), .val (.int p2), .val (.int p3), .val (.int p4), .val (.int p5), .val (.int p6), .val (.int N_), .val (.int (0 : Int32)), .val (.int (p3 ^^^ (-1 : Int32))), .val (.int (p4 ^^^ (-1 : Int32))), .val (.ref b1), .unset, .unset] [(.int p3), (.int (0 : Int32))])) (fun _ k => XS.iloadN X60.here hx rfl (hb hby at_129) rfl k) ?_
        refine Go.via (S' := T60.setTop (mkF m 131 #[.val (.int p1), .val (.int p2), .val (.int p3), .val (.int p4), .val (.int p5), .val (.int p6), .val (.int N_), .val (.int (0 : Int32)), .val (.int (p3 ^^^ (-1 : Int32))), .val (.int (p4 ^^^ (-1 : Int32))), .val (.ref b1), .unset, .unset] [(.int p4), (.int p3), (.int (0 : Int32))])) (fun _ k => XS.iloadN X60.here hx rfl (hb hby at_130) rfl k) ?_
        refine Go.via (S' := T60.setTop (mkF m 133 #[.val (.int p1), .val (.int p2), .val (.int p3), .val (.int p4), .val (.int p5), .val (.int p6), .val (.int N_), .val (.int (0 : Int32)), .val (.int (p3 ^^^ (-1 : Int32))), .val (.int (p4 ^^^ (-1 : Int32))), .val (.ref b1), .unset, .unset] [(.int p5), (.int p4), (.int p3), (.int (0 : Int32))])) (fun _ k => XS.iload X60.here hx rfl (hb hby at_131) rfl k) ?_
        refine Go.via (S' := T60.setTop (mkF m 135 #[.val (.int p1), .val (.int p2), .val (.int p3), .val (.int p4), .val (.int p5), .val (.int p6), .val (.int N_), .val (.int (0 : Int32)), .val (.int (p3 ^^^ (-1 : Int32))), .val (.int (p4 ^^^ (-1 : Int32))), .val (.ref b1), .unset, .unset] [(.int p6), (.int p5), (.int p4), (.int p3), (.int (0 : Int32))])) (fun _ k => XS.iload X60.here hx rfl (hb hby at_133) rfl k) ?_
        refine Go.via (S' := T60.setTop (mkF m 137 #[.val (.int p1), .val (.int p2), .val (.int p3), .val (.int p4), .val (.int p5), .val (.int p6), .val (.int N_), .val (.int (0 : Int32)), .val (.int (p3 ^^^ (-1 : Int32))), .val (.int (p4 ^^^ (-1 : Int32))), .val (.ref b1), .unset, .unset] [(.int (p3 ^^^ (-1 : Int32))), (.int p6), (.int p5), (.int p4), (.int p3), (.int (0 : Int32))])) (fun _ k => XS.iload X60.here hx rfl (hb hby at_135) rfl k) ?_
        refine Go.via (S' := T60.setTop (mkF m 139 #[.val (.int p1), .val (.int p2), .val (.int p3), .val (.int p4), .val (.int p5), .val (.int p6), .val (.int N_), .val (.int (0 : Int32)), .val (.int (p3 ^^^ (-1 : Int32))), .val (.int (p4 ^^^ (-1 : Int32))), .val (.ref b1), .unset, .unset] [(.int (p4 ^^^ (-1 : Int32))), (.int (p3 ^^^ (-1 : Int32))), (.int p6), (.int p5), (.int p4), (.int p3), (.int (0 : Int32))])) (fun _ k => XS.iload X60.here hx rfl (hb hby at_137) rfl k) ?_
        obtain ⟨_, _, ⟨T367, L367, k367, n367⟩, -, X367, ⟨Lc367, hQ367, l367, y367, z367⟩, st367⟩ := Jvm.LawKit.callS X60 hx (y := (⟨"com/example/tidegraph/tidegraph/graph/ElementListGetPinLaw", "expectedAt", "(IIIIIII)I"⟩ : MethodName)) hown (mvT hZ (hw _ (List.mem_of_getElem? (i := 71) rfl))) (mvT hZ (hw _ (List.mem_of_getElem? (i := 72) rfl))) (mvT hZ (hw _ (List.mem_of_getElem? (i := 73) rfl))) (mvT hZ (hw _ (List.mem_of_getElem? (i := 74) rfl))) (by decide) (backOf (W := 0) (rm11 l Z a0 hw [] (0 : Int32) p3 p4 p5 p6 (p3 ^^^ (-1 : Int32)) (p4 ^^^ (-1 : Int32)) T60.heap n0 z71) hZ (hw _ (List.mem_of_getElem? (i := 74) rfl)) (hw _ (List.mem_of_getElem? (i := 73) rfl)) (by decide) (by decide)) (g := (mkF m 139 #[.val (.int p1), .val (.int p2), .val (.int p3), .val (.int p4), .val (.int p5), .val (.int p6), .val (.int N_), .val (.int (0 : Int32)), .val (.int (p3 ^^^ (-1 : Int32))), .val (.int (p4 ^^^ (-1 : Int32))), .val (.ref b1), .unset, .unset] [(.int (p4 ^^^ (-1 : Int32))), (.int (p3 ^^^ (-1 : Int32))), (.int p6), (.int p5), (.int p4), (.int p3), (.int (0 : Int32))])) rfl (by rw [hml]; rfl) (argsL := [(.int (0 : Int32)), (.int p3), (.int p4), (.int p5), (.int p6), (.int (p3 ^^^ (-1 : Int32))), (.int (p4 ^^^ (-1 : Int32)))]) (rest := []) (lenOf pd_7 rfl) rfl (by show 2 * 0 + _ ≤ _; exact Nat.le_of_eq rfl) (hb hby at_139) (fun _ _ => ⟨rfl, rfl, (by decide : 4 + 0 ≤ _), (by decide : 9 + 0 ≤ _)⟩)
        dsimp only [Pt.U, Pt.locs, Pt.cells, Pt.slots] at X367 l367 y367 z367 st367 hQ367
        subst l367 y367 z367
        obtain ⟨rfl, N367q, e367⟩ := hQ367
        have N368 := Fr.app N61 N367q
        refine Go.via (S' := T367.setTop (mkF m 142 #[.val (.int p1), .val (.int p2), .val (.int p3), .val (.int p4), .val (.int p5), .val (.int p6), .val (.int N_), .val (.int (0 : Int32)), .val (.int (p3 ^^^ (-1 : Int32))), .val (.int (p4 ^^^ (-1 : Int32))), .val (.ref b1), .unset, .unset] [(.int (own_at (0 : Int32) p3 p4 p5 p6 (p3 ^^^ (-1 : Int32)) (p4 ^^^ (-1 : Int32))))])) (fun _ k => st367 _ k) ?_
        refine Go.via (S' := T367.setTop (mkF m 144 #[.val (.int p1), .val (.int p2), .val (.int p3), .val (.int p4), .val (.int p5), .val (.int p6), .val (.int N_), .val (.int (0 : Int32)), .val (.int (p3 ^^^ (-1 : Int32))), .val (.int (p4 ^^^ (-1 : Int32))), .val (.ref b1), .val (.int (own_at (0 : Int32) p3 p4 p5 p6 (p3 ^^^ (-1 : Int32)) (p4 ^^^ (-1 : Int32)))), .unset] [])) (fun _ k => XS.istore X367.here hx rfl (hb hby at_142) rfl (l' := #[.val (.int p1), .val (.int p2), .val (.int p3), .val (.int p4), .val (.int p5), .val (.int p6), .val (.int N_), .val (.int (0 : Int32)), .val (.int (p3 ^^^ (-1 : Int32))), .val (.int (p4 ^^^ (-1 : Int32))), .val (.ref b1), .val (.int (own_at (0 : Int32) p3 p4 p5 p6 (p3 ^^^ (-1 : Int32)) (p4 ^^^ (-1 : Int32)))), .unset]) rfl k) ?_
        refine Go.via (S' := T367.setTop (mkF m 146 #[.val (.int p1), .val (.int p2), .val (.int p3), .val (.int p4), .val (.int p5), .val (.int p6), .val (.int N_), .val (.int (0 : Int32)), .val (.int (p3 ^^^ (-1 : Int32))), .val (.int (p4 ^^^ (-1 : Int32))), .val (.ref b1), .val (.int (own_at (0 : Int32) p3 p4 p5 p6 (p3 ^^^ (-1 : Int32)) (p4 ^^^ (-1 : Int32)))), .unset] [(.ref b1)])) (fun _ k => XS.aload X367.here hx rfl (hb hby at_144) rfl rfl k) ?_
        refine Go.via (S' := T367.setTop (mkF m 148 #[.val (.int p1), .val (.int p2), .val (.int p3), .val (.int p4), .val (.int p5), .val (.int p6), .val (.int N_), .val (.int (0 : Int32)), .val (.int (p3 ^^^ (-1 : Int32))), .val (.int (p4 ^^^ (-1 : Int32))), .val (.ref b1), .val (.int (own_at (0 : Int32) p3 p4 p5 p6 (p3 ^^^ (-1 : Int32)) (p4 ^^^ (-1 : Int32)))), .unset] [(.int (0 : Int32)), (.ref b1)])) (fun _ k => XS.iload X367.here hx rfl (hb hby at_146) rfl k) ?_
        obtain ⟨cq369, kq369, q369a, q369b, q369c⟩ := isOf hZ e367 f65
        obtain ⟨_, _, ⟨T369, L369, k369, n369⟩, -, X369, ⟨Lc369, hQ369, l369, y369, z369⟩, st369⟩ := X367.virtualBack hx (y := (⟨"com/example/tidegraph/tidegraph/graph/ElementList", "get", "(I)Ljava/lang/Object;"⟩ : MethodName)) (z := (⟨"com/example/tidegraph/tidegraph/graph/ElementList", "get", "(I)Ljava/lang/Object;"⟩ : MethodName)) hown (mvT hZ (hw _ (List.mem_of_getElem? (i := 75) rfl))) (mvT hZ (hw _ (List.mem_of_getElem? (i := 76) rfl))) (notFace_of_selects (args := #[]) (mvT hZ (hw _ (List.mem_of_getElem? (i := 78) rfl)))) (mvT hZ (hw _ (List.mem_of_getElem? (i := 78) rfl))) (mvT hZ (hw _ (List.mem_of_getElem? (i := 77) rfl))) (by decide) (backOf (W := 0) (rm12 l Z a0 hw [] b1 (0 : Int32) ar31 k231 (4 : Int32) [(.ref r18), (.ref r43), .null, .null] (2 : Int32) r18 T60.heap n0 z71 Fe60 Fs60 Va60 (by decide) (by decide) rfl) hZ (hw _ (List.mem_of_getElem? (i := 79) rfl)) (hw _ (List.mem_of_getElem? (i := 3) rfl)) (by decide) (by decide)) q369a q369c (g := (mkF m 148 #[.val (.int p1), .val (.int p2), .val (.int p3), .val (.int p4), .val (.int p5), .val (.int p6), .val (.int N_), .val (.int (0 : Int32)), .val (.int (p3 ^^^ (-1 : Int32))), .val (.int (p4 ^^^ (-1 : Int32))), .val (.ref b1), .val (.int (own_at (0 : Int32) p3 p4 p5 p6 (p3 ^^^ (-1 : Int32)) (p4 ^^^ (-1 : Int32)))), .unset] [(.int (0 : Int32)), (.ref b1)])) rfl (by rw [hml]; rfl) (Steps.refl _) (argsL := [(.int (0 : Int32))]) (rest := []) (lenOf pd_8 rfl) rfl (by show 2 * 0 + _ ≤ _; exact Nat.le_of_eq rfl) (hb hby at_148) (fun _ _ => ⟨rfl, e367, (by decide : 4 + 0 ≤ _), (by decide : 9 + 0 ≤ _)⟩)
        dsimp only [Pt.U, Pt.locs, Pt.cells, Pt.slots] at X369 l369 y369 z369 st369 hQ369
        subst l369 y369 z369
        obtain ⟨rfl, N369q, e369⟩ := hQ369
        have N370 := Fr.app N368 N369q
        refine Go.via (S' := T369.setTop (mkF m 151 #[.val (.int p1), .val (.int p2), .val (.int p3), .val (.int p4), .val (.int p5), .val (.int p6), .val (.int N_), .val (.int (0 : Int32)), .val (.int (p3 ^^^ (-1 : Int32))), .val (.int (p4 ^^^ (-1 : Int32))), .val (.ref b1), .val (.int (own_at (0 : Int32) p3 p4 p5 p6 (p3 ^^^ (-1 : Int32)) (p4 ^^^ (-1 : Int32)))), .unset] [(.ref r18)])) (fun _ k => st369.trans k) ?_
        obtain ⟨T371, X371, e371, st371⟩ := castY X369 hx hZ hown (hw _ (List.mem_of_getElem? (i := 80) rfl)) e369 (Ins.self f66) (g := (mkF m 151 #[.val (.int p1), .val (.int p2), .val (.int p3), .val (.int p4), .val (.int p5), .val (.int p6), .val (.int N_), .val (.int (0 : Int32)), .val (.int (p3 ^^^ (-1 : Int32))), .val (.int (p4 ^^^ (-1 : Int32))), .val (.ref b1), .val (.int (own_at (0 : Int32) p3 p4 p5 p6 (p3 ^^^ (-1 : Int32)) (p4 ^^^ (-1 : Int32)))), .unset] [(.ref r18)])) rfl rfl (hb hby at_151)
        refine Go.via (S' := T371.setTop (mkF m 154 #[.val (.int p1), .val (.int p2), .val (.int p3), .val (.int p4), .val (.int p5), .val (.int p6), .val (.int N_), .val (.int (0 : Int32)), .val (.int (p3 ^^^ (-1 : Int32))), .val (.int (p4 ^^^ (-1 : Int32))), .val (.ref b1), .val (.int (own_at (0 : Int32) p3 p4 p5 p6 (p3 ^^^ (-1 : Int32)) (p4 ^^^ (-1 : Int32)))), .unset] [(.ref r18)])) (fun _ k => st371 _ k) ?_
        refine Go.via (S' := T371.setTop (mkF m 156 #[.val (.int p1), .val (.int p2), .val (.int p3), .val (.int p4), .val (.int p5), .val (.int p6), .val (.int N_), .val (.int (0 : Int32)), .val (.int (p3 ^^^ (-1 : Int32))), .val (.int (p4 ^^^ (-1 : Int32))), .val (.ref b1), .val (.int (own_at (0 : Int32) p3 p4 p5 p6 (p3 ^^^ (-1 : Int32)) (p4 ^^^ (-1 : Int32)))), .val (.ref r18)] [])) (fun _ k => XS.astore X371.here hx rfl (hb hby at_154) rfl rfl (l' := #[.val (.int p1), .val (.int p2), .val (.int p3), .val (.int p4), .val (.int p5), .val (.int p6), .val (.int N_), .val (.int (0 : Int32)), .val (.int (p3 ^^^ (-1 : Int32))), .val (.int (p4 ^^^ (-1 : Int32))), .val (.ref b1), .val (.int (own_at (0 : Int32) p3 p4 p5 p6 (p3 ^^^ (-1 : Int32)) (p4 ^^^ (-1 : Int32)))), .val (.ref r18)]) rfl k) ?_
        refine Go.via (S' := T371.setTop (mkF m 158 #[.val (.int p1), .val (.int p2), .val (.int p3), .val (.int p4), .val (.int p5), .val (.int p6), .val (.int N_), .val (.int (0 : Int32)), .val (.int (p3 ^^^ (-1 : Int32))), .val (.int (p4 ^^^ (-1 : Int32))), .val (.ref b1), .val (.int (own_at (0 : Int32) p3 p4 p5 p6 (p3 ^^^ (-1 : Int32)) (p4 ^^^ (-1 : Int32)))), .val (.ref r18)] [(.ref r18)])) (fun _ k => XS.aload X371.here hx rfl (hb hby at_156) rfl rfl k) ?_
        refine Go.via (S' := T371.setTop (mkF m 163 #[.val (.int p1), .val (.int p2), .val (.int p3), .val (.int p4), .val (.int p5), .val (.int p6), .val (.int N_), .val (.int (0 : Int32)), .val (.int (p3 ^^^ (-1 : Int32))), .val (.int (p4 ^^^ (-1 : Int32))), .val (.ref b1), .val (.int (own_at (0 : Int32) p3 p4 p5 p6 (p3 ^^^ (-1 : Int32)) (p4 ^^^ (-1 : Int32)))), .val (.ref r18)] [])) (fun _ k => XS.ifnonnullYes X371.here hx rfl (pc0 := 158) (pc' := 163) rfl (hb hby at_158) rfl (by decide) (by decide) k) ?_
        refine Go.via (S' := T371.setTop (mkF m 165 #[.val (.int p1), .val (.int p2), .val (.int p3), .val (.int p4), .val (.int p5), .val (.int p6), .val (.int N_), .val (.int (0 : Int32)), .val (.int (p3 ^^^ (-1 : Int32))), .val (.int (p4 ^^^ (-1 : Int32))), .val (.ref b1), .val (.int (own_at (0 : Int32) p3 p4 p5 p6 (p3 ^^^ (-1 : Int32)) (p4 ^^^ (-1 : Int32)))), .val (.ref r18)] [(.ref r18)])) (fun _ k => XS.aload X371.here hx rfl (hb hby at_163) rfl rfl k) ?_
        obtain ⟨cq372, kq372, q372a, q372b, q372c⟩ := isOf hZ e371 f66
        obtain ⟨_, _, ⟨T372, L372, k372, n372⟩, -, X372, ⟨Lc372, hQ372, l372, y372, z372⟩, st372⟩ := X371.virtualBack hx (y := (⟨"java/lang/Integer", "intValue", "()I"⟩ : MethodName)) (z := (⟨"java/lang/Integer", "intValue", "()I"⟩ : MethodName)) hown (mvT hZ (hw _ (List.mem_of_getElem? (i := 82) rfl))) (mvT hZ (hw _ (List.mem_of_getElem? (i := 83) rfl))) (notFace_of_selects (args := #[]) (mvT hZ (hw _ (List.mem_of_getElem? (i := 85) rfl)))) (mvT hZ (hw _ (List.mem_of_getElem? (i := 85) rfl))) (mvT hZ (hw _ (List.mem_of_getElem? (i := 84) rfl))) (by decide) (backOf (W := 0) (rm13 l Z a0 hw [] r18 p3 T60.heap n0 z71 f67) hZ (hw _ (List.mem_of_getElem? (i := 86) rfl)) (hw _ (List.mem_of_getElem? (i := 29) rfl)) (by decide) (by decide)) q372a q372c (g := (mkF m 165 #[.val (.int p1), .val (.int p2), .val (.int p3), .val (.int p4), .val (.int p5), .val (.int p6), .val (.int N_), .val (.int (0 : Int32)), .val (.int (p3 ^^^ (-1 : Int32))), .val (.int (p4 ^^^ (-1 : Int32))), .val (.ref b1), .val (.int (own_at (0 : Int32) p3 p4 p5 p6 (p3 ^^^ (-1 : Int32)) (p4 ^^^ (-1 : Int32)))), .val (.ref r18)] [(.ref r18)])) rfl (by rw [hml]; rfl) (Steps.refl _) (argsL := []) (rest := []) (lenOf pd_9 rfl) rfl (by show 2 * 0 + _ ≤ _; exact Nat.le_of_eq rfl) (hb hby at_165) (fun _ _ => ⟨rfl, e371, (by decide : 4 + 0 ≤ _), (by decide : 9 + 0 ≤ _)⟩)
        dsimp only [Pt.U, Pt.locs, Pt.cells, Pt.slots] at X372 l372 y372 z372 st372 hQ372
        subst l372 y372 z372
        obtain ⟨rfl, N372q, e372⟩ := hQ372
        have N373 := Fr.app N370 N372q
        refine Go.via (S' := T372.setTop (mkF m 168 #[.val (.int p1), .val (.int p2), .val (.int p3), .val (.int p4), .val (.int p5), .val (.int p6), .val (.int N_), .val (.int (0 : Int32)), .val (.int (p3 ^^^ (-1 : Int32))), .val (.int (p4 ^^^ (-1 : Int32))), .val (.ref b1), .val (.int (own_at (0 : Int32) p3 p4 p5 p6 (p3 ^^^ (-1 : Int32)) (p4 ^^^ (-1 : Int32)))), .val (.ref r18)] [(.int p3)])) (fun _ k => st372.trans k) ?_
        refine Go.via (S' := T372.setTop (mkF m 170 #[.val (.int p1), .val (.int p2), .val (.int p3), .val (.int p4), .val (.int p5), .val (.int p6), .val (.int N_), .val (.int (0 : Int32)), .val (.int (p3 ^^^ (-1 : Int32))), .val (.int (p4 ^^^ (-1 : Int32))), .val (.ref b1), .val (.int (own_at (0 : Int32) p3 p4 p5 p6 (p3 ^^^ (-1 : Int32)) (p4 ^^^ (-1 : Int32)))), .val (.ref r18)] [(.int (own_at (0 : Int32) p3 p4 p5 p6 (p3 ^^^ (-1 : Int32)) (p4 ^^^ (-1 : Int32)))), (.int p3)])) (fun _ k => XS.iload X372.here hx rfl (hb hby at_168) rfl k) ?_
        refine Go.via (S' := T372.setTop (mkF m 173 #[.val (.int p1), .val (.int p2), .val (.int p3), .val (.int p4), .val (.int p5), .val (.int p6), .val (.int N_), .val (.int (0 : Int32)), .val (.int (p3 ^^^ (-1 : Int32))), .val (.int (p4 ^^^ (-1 : Int32))), .val (.ref b1), .val (.int (own_at (0 : Int32) p3 p4 p5 p6 (p3 ^^^ (-1 : Int32)) (p4 ^^^ (-1 : Int32)))), .val (.ref r18)] [])) (fun _ k => XS.icmpNo X372.here hx rfl (hb hby at_170) rfl (teq (by simp [own_at])).2 k) ?_
        refine Go.via (S' := T372.setTop (mkF m 174 #[.val (.int p1), .val (.int p2), .val (.int p3), .val (.int p4), .val (.int p5), .val (.int p6), .val (.int N_), .val (.int (0 : Int32)), .val (.int (p3 ^^^ (-1 : Int32))), .val (.int (p4 ^^^ (-1 : Int32))), .val (.ref b1), .val (.int (own_at (0 : Int32) p3 p4 p5 p6 (p3 ^^^ (-1 : Int32)) (p4 ^^^ (-1 : Int32)))), .val (.ref r18)] [(.int (1 : Int32))])) (fun _ k => XS.iconst X372.here hx rfl (hb hby at_173) k) ?_
        refine Go.via (S' := T372.setTop (mkF m 178 #[.val (.int p1), .val (.int p2), .val (.int p3), .val (.int p4), .val (.int p5), .val (.int p6), .val (.int N_), .val (.int (0 : Int32)), .val (.int (p3 ^^^ (-1 : Int32))), .val (.int (p4 ^^^ (-1 : Int32))), .val (.ref b1), .val (.int (own_at (0 : Int32) p3 p4 p5 p6 (p3 ^^^ (-1 : Int32)) (p4 ^^^ (-1 : Int32)))), .val (.ref r18)] [(.int (1 : Int32))])) (fun _ k => XS.goto X372.here hx rfl (pc0 := 174) (pc' := 178) rfl (hb hby at_174) (by decide) (by decide) k) ?_
        exact Go.retB X372 hx (BodyLoose.notSynchronized Bd) Bd.returns (hb hby at_178) rfl (by rw [e372]; exact ⟨rfl, N373⟩) (by decide) (by decide)
      · obtain rfl : I_ = (1 : Int32) := Int32.toInt_inj.mp hi
        refine Go.via (S' := T60.setTop (mkF m 129 #[.val (.int p1), .val (.int p2), .val (.int p3), .val (.int p4), .val (.int p5), .val (.int p6), .val (.int N_), .val (.int (1 : Int32)), .val (.int (p3 ^^^ (-1 : Int32))), .val (.int (p4 ^^^ (-1 : Int32))), .val (.ref b1), .unset, .unset] [(.int (1 : Int32))])) (fun _ k => XS.iload X60.here hx rfl (hb hby at_127) rfl k) ?_
        refine Go.via (S' := T60.setTop (mkF m 130 #[.val (.int p1), .val (.int p2), .val (.int p3), .val (.int p4), .val (.int p5), .val (.int p6), .val (.int N_), .val (.int (1 : Int32)), .val (.int (p3 ^^^ (-1 : Int32))), .val (.int (p4 ^^^ (-1 : Int32))), .val (.ref b1), .unset, .unset] [(.int p3), (.int (1 : Int32))])) (fun _ k => XS.iloadN X60.here hx rfl (hb hby at_129) rfl k) ?_
        refine Go.via (S' := T60.setTop (mkF m 131 #[.val (.int p1), .val (.int p2), .val (.int p3), .val (.int p4), .val (.int p5), .val (.int p6), .val (.int N_), .val (.int (1 : Int32)), .val (.int (p3 ^^^ (-1 : Int32))), .val (.int (p4 ^^^ (-1 : Int32))), .val (.ref b1), .unset, .unset] [(.int p4), (.int p3), (.int (1 : Int32))])) (fun _ k => XS.iloadN X60.here hx rfl (hb hby at_130) rfl k) ?_
        refine Go.via (S' := T60.setTop (mkF m 133 #[.val (.int p1), .val (.int p2), .val (.int p3), .val (.int p4), .val (.int p5), .val (.int p6), .val (.int N_), .val (.int (1 : Int32)), .val (.int (p3 ^^^ (-1 : Int32))), .val (.int (p4 ^^^ (-1 : Int32))), .val (.ref b1), .unset, .unset] [(.int p5), (.int p4), (.int p3), (.int (1 : Int32))])) (fun _ k => XS.iload X60.here hx rfl (hb hby at_131) rfl k) ?_
        refine Go.via (S' := T60.setTop (mkF m 135 #[.val (.int p1), .val (.int p2), .val (.int p3), .val (.int p4), .val (.int p5), .val (.int p6), .val (.int N_), .val (.int (1 : Int32)), .val (.int (p3 ^^^ (-1 : Int32))), .val (.int (p4 ^^^ (-1 : Int32))), .val (.ref b1), .unset, .unset] [(.int p6), (.int p5), (.int p4), (.int p3), (.int (1 : Int32))])) (fun _ k => XS.iload X60.here hx rfl (hb hby at_133) rfl k) ?_
        refine Go.via (S' := T60.setTop (mkF m 137 #[.val (.int p1), .val (.int p2), .val (.int p3), .val (.int p4), .val (.int p5), .val (.int p6), .val (.int N_), .val (.int (1 : Int32)), .val (.int (p3 ^^^ (-1 : Int32))), .val (.int (p4 ^^^ (-1 : Int32))), .val (.ref b1), .unset, .unset] [(.int (p3 ^^^ (-1 : Int32))), (.int p6), (.int p5), (.int p4), (.int p3), (.int (1 : Int32))])) (fun _ k => XS.iload X60.here hx rfl (hb hby at_135) rfl k) ?_
        refine Go.via (S' := T60.setTop (mkF m 139 #[.val (.int p1), .val (.int p2), .val (.int p3), .val (.int p4), .val (.int p5), .val (.int p6), .val (.int N_), .val (.int (1 : Int32)), .val (.int (p3 ^^^ (-1 : Int32))), .val (.int (p4 ^^^ (-1 : Int32))), .val (.ref b1), .unset, .unset] [(.int (p4 ^^^ (-1 : Int32))), (.int (p3 ^^^ (-1 : Int32))), (.int p6), (.int p5), (.int p4), (.int p3), (.int (1 : Int32))])) (fun _ k => XS.iload X60.here hx rfl (hb hby at_137) rfl k) ?_
        obtain ⟨_, _, ⟨T374, L374, k374, n374⟩, -, X374, ⟨Lc374, hQ374, l374, y374, z374⟩, st374⟩ := Jvm.LawKit.callS X60 hx (y := (⟨"com/example/tidegraph/tidegraph/graph/ElementListGetPinLaw", "expectedAt", "(IIIIIII)I"⟩ : MethodName)) hown (mvT hZ (hw _ (List.mem_of_getElem? (i := 71) rfl))) (mvT hZ (hw _ (List.mem_of_getElem? (i := 72) rfl))) (mvT hZ (hw _ (List.mem_of_getElem? (i := 73) rfl))) (mvT hZ (hw _ (List.mem_of_getElem? (i := 74) rfl))) (by decide) (backOf (W := 0) (rm11 l Z a0 hw [] (1 : Int32) p3 p4 p5 p6 (p3 ^^^ (-1 : Int32)) (p4 ^^^ (-1 : Int32)) T60.heap n0 z71) hZ (hw _ (List.mem_of_getElem? (i := 74) rfl)) (hw _ (List.mem_of_getElem? (i := 73) rfl)) (by decide) (by decide)) (g := (mkF m 139 #[.val (.int p1), .val (.int p2), .val (.int p3), .val (.int p4), .val (.int p5), .val (.int p6), .val (.int N_), .val (.int (1 : Int32)), .val (.int (p3 ^^^ (-1 : Int32))), .val (.int (p4 ^^^ (-1 : Int32))), .val (.ref b1), .unset, .unset] [(.int (p4 ^^^ (-1 : Int32))), (.int (p3 ^^^ (-1 : Int32))), (.int p6), (.int p5), (.int p4), (.int p3), (.int (1 : Int32))])) rfl (by rw [hml]; rfl) (argsL := [(.int (1 : Int32)), (.int p3), (.int p4), (.int p5), (.int p6), (.int (p3 ^^^ (-1 : Int32))), (.int (p4 ^^^ (-1 : Int32)))]) (rest := []) (lenOf pd_7 rfl) rfl (by show 2 * 0 + _ ≤ _; exact Nat.le_of_eq rfl) (hb hby at_139) (fun _ _ => ⟨rfl, rfl, (by decide : 4 + 0 ≤ _), (by decide : 9 + 0 ≤ _)⟩)
        dsimp only [Pt.U, Pt.locs, Pt.cells, Pt.slots] at X374 l374 y374 z374 st374 hQ374
        subst l374 y374 z374
        obtain ⟨rfl, N374q, e374⟩ := hQ374
        have N375 := Fr.app N61 N374q
        refine Go.via (S' := T374.setTop (mkF m 142 #[.val (.int p1), .val (.int p2), .val (.int p3), .val (.int p4), .val (.int p5), .val (.int p6), .val (.int N_), .val (.int (1 : Int32)), .val (.int (p3 ^^^ (-1 : Int32))), .val (.int (p4 ^^^ (-1 : Int32))), .val (.ref b1), .unset, .unset] [(.int (own_at (1 : Int32) p3 p4 p5 p6 (p3 ^^^ (-1 : Int32)) (p4 ^^^ (-1 : Int32))))])) (fun _ k => st374 _ k) ?_
        refine Go.via (S' := T374.setTop (mkF m 144 #[.val (.int p1), .val (.int p2), .val (.int p3), .val (.int p4), .val (.int p5), .val (.int p6), .val (.int N_), .val (.int (1 : Int32)), .val (.int (p3 ^^^ (-1 : Int32))), .val (.int (p4 ^^^ (-1 : Int32))), .val (.ref b1), .val (.int (own_at (1 : Int32) p3 p4 p5 p6 (p3 ^^^ (-1 : Int32)) (p4 ^^^ (-1 : Int32)))), .unset] [])) (fun _ k => XS.istore X374.here hx rfl (hb hby at_142) rfl (l' := #[.val (.int p1), .val (.int p2), .val (.int p3), .val (.int p4), .val (.int p5), .val (.int p6), .val (.int N_), .val (.int (1 : Int32)), .val (.int (p3 ^^^ (-1 : Int32))), .val (.int (p4 ^^^ (-1 : Int32))), .val (.ref b1), .val (.int (own_at (1 : Int32) p3 p4 p5 p6 (p3 ^^^ (-1 : Int32)) (p4 ^^^ (-1 : Int32)))), .unset]) rfl k) ?_
        refine Go.via (S' := T374.setTop (mkF m 146 #[.val (.int p1), .val (.int p2), .val (.int p3), .val (.int p4), .val (.int p5), .val (.int p6), .val (.int N_), .val (.int (1 : Int32)), .val (.int (p3 ^^^ (-1 : Int32))), .val (.int (p4 ^^^ (-1 : Int32))), .val (.ref b1), .val (.int (own_at (1 : Int32) p3 p4 p5 p6 (p3 ^^^ (-1 : Int32)) (p4 ^^^ (-1 : Int32)))), .unset] [(.ref b1)])) (fun _ k => XS.aload X374.here hx rfl (hb hby at_144) rfl rfl k) ?_
        refine Go.via (S' := T374.setTop (mkF m 148 #[.val (.int p1), .val (.int p2), .val (.int p3), .val (.int p4), .val (.int p5), .val (.int p6), .val (.int N_), .val (.int (1 : Int32)), .val (.int (p3 ^^^ (-1 : Int32))), .val (.int (p4 ^^^ (-1 : Int32))), .val (.ref b1), .val (.int (own_at (1 : Int32) p3 p4 p5 p6 (p3 ^^^ (-1 : Int32)) (p4 ^^^ (-1 : Int32)))), .unset] [(.int (1 : Int32)), (.ref b1)])) (fun _ k => XS.iload X374.here hx rfl (hb hby at_146) rfl k) ?_
        obtain ⟨cq376, kq376, q376a, q376b, q376c⟩ := isOf hZ e374 f65
        obtain ⟨_, _, ⟨T376, L376, k376, n376⟩, -, X376, ⟨Lc376, hQ376, l376, y376, z376⟩, st376⟩ := X374.virtualBack hx (y := (⟨"com/example/tidegraph/tidegraph/graph/ElementList", "get", "(I)Ljava/lang/Object;"⟩ : MethodName)) (z := (⟨"com/example/tidegraph/tidegraph/graph/ElementList", "get", "(I)Ljava/lang/Object;"⟩ : MethodName)) hown (mvT hZ (hw _ (List.mem_of_getElem? (i := 75) rfl))) (mvT hZ (hw _ (List.mem_of_getElem? (i := 76) rfl))) (notFace_of_selects (args := #[]) (mvT hZ (hw _ (List.mem_of_getElem? (i := 78) rfl)))) (mvT hZ (hw _ (List.mem_of_getElem? (i := 78) rfl))) (mvT hZ (hw _ (List.mem_of_getElem? (i := 77) rfl))) (by decide) (backOf (W := 0) (rm12 l Z a0 hw [] b1 (1 : Int32) ar31 k231 (4 : Int32) [(.ref r18), (.ref r43), .null, .null] (2 : Int32) r43 T60.heap n0 z71 Fe60 Fs60 Va60 (by decide) (by decide) rfl) hZ (hw _ (List.mem_of_getElem? (i := 79) rfl)) (hw _ (List.mem_of_getElem? (i := 3) rfl)) (by decide) (by decide)) q376a q376c (g := (mkF m 148 #[.val (.int p1), .val (.int p2), .val (.int p3), .val (.int p4), .val (.int p5), .val (.int p6), .val (.int N_), .val (.int (1 : Int32)), .val (.int (p3 ^^^ (-1 : Int32))), .val (.int (p4 ^^^ (-1 : Int32))), .val (.ref b1), .val (.int (own_at (1 : Int32) p3 p4 p5 p6 (p3 ^^^ (-1 : Int32)) (p4 ^^^ (-1 : Int32)))), .unset] [(.int (1 : Int32)), (.ref b1)])) rfl (by rw [hml]; rfl) (Steps.refl _) (argsL := [(.int (1 : Int32))]) (rest := []) (lenOf pd_8 rfl) rfl (by show 2 * 0 + _ ≤ _; exact Nat.le_of_eq rfl) (hb hby at_148) (fun _ _ => ⟨rfl, e374, (by decide : 4 + 0 ≤ _), (by decide : 9 + 0 ≤ _)⟩)
        dsimp only [Pt.U, Pt.locs, Pt.cells, Pt.slots] at X376 l376 y376 z376 st376 hQ376
        subst l376 y376 z376
        obtain ⟨rfl, N376q, e376⟩ := hQ376
        have N377 := Fr.app N375 N376q
        refine Go.via (S' := T376.setTop (mkF m 151 #[.val (.int p1), .val (.int p2), .val (.int p3), .val (.int p4), .val (.int p5), .val (.int p6), .val (.int N_), .val (.int (1 : Int32)), .val (.int (p3 ^^^ (-1 : Int32))), .val (.int (p4 ^^^ (-1 : Int32))), .val (.ref b1), .val (.int (own_at (1 : Int32) p3 p4 p5 p6 (p3 ^^^ (-1 : Int32)) (p4 ^^^ (-1 : Int32)))), .unset] [(.ref r43)])) (fun _ k => st376.trans k) ?_
        obtain ⟨T378, X378, e378, st378⟩ := castY X376 hx hZ hown (hw _ (List.mem_of_getElem? (i := 80) rfl)) e376 (Ins.self f69) (g := (mkF m 151 #[.val (.int p1), .val (.int p2), .val (.int p3), .val (.int p4), .val (.int p5), .val (.int p6), .val (.int N_), .val (.int (1 : Int32)), .val (.int (p3 ^^^ (-1 : Int32))), .val (.int (p4 ^^^ (-1 : Int32))), .val (.ref b1), .val (.int (own_at (1 : Int32) p3 p4 p5 p6 (p3 ^^^ (-1 : Int32)) (p4 ^^^ (-1 : Int32)))), .unset] [(.ref r43)])) rfl rfl (hb hby at_151)
        refine Go.via (S' := T378.setTop (mkF m 154 #[.val (.int p1), .val (.int p2), .val (.int p3), .val (.int p4), .val (.int p5), .val (.int p6), .val (.int N_), .val (.int (1 : Int32)), .val (.int (p3 ^^^ (-1 : Int32))), .val (.int (p4 ^^^ (-1 : Int32))), .val (.ref b1), .val (.int (own_at (1 : Int32) p3 p4 p5 p6 (p3 ^^^ (-1 : Int32)) (p4 ^^^ (-1 : Int32)))), .unset] [(.ref r43)])) (fun _ k => st378 _ k) ?_
        refine Go.via (S' := T378.setTop (mkF m 156 #[.val (.int p1), .val (.int p2), .val (.int p3), .val (.int p4), .val (.int p5), .val (.int p6), .val (.int N_), .val (.int (1 : Int32)), .val (.int (p3 ^^^ (-1 : Int32))), .val (.int (p4 ^^^ (-1 : Int32))), .val (.ref b1), .val (.int (own_at (1 : Int32) p3 p4 p5 p6 (p3 ^^^ (-1 : Int32)) (p4 ^^^ (-1 : Int32)))), .val (.ref r43)] [])) (fun _ k => XS.astore X378.here hx rfl (hb hby at_154) rfl rfl (l' := #[.val (.int p1), .val (.int p2), .val (.int p3), .val (.int p4), .val (.int p5), .val (.int p6), .val (.int N_), .val (.int (1 : Int32)), .val (.int (p3 ^^^ (-1 : Int32))), .val (.int (p4 ^^^ (-1 : Int32))), .val (.ref b1), .val (.int (own_at (1 : Int32) p3 p4 p5 p6 (p3 ^^^ (-1 : Int32)) (p4 ^^^ (-1 : Int32)))), .val (.ref r43)]) rfl k) ?_
        refine Go.via (S' := T378.setTop (mkF m 158 #[.val (.int p1), .val (.int p2), .val (.int p3), .val (.int p4), .val (.int p5), .val (.int p6), .val (.int N_), .val (.int (1 : Int32)), .val (.int (p3 ^^^ (-1 : Int32))), .val (.int (p4 ^^^ (-1 : Int32))), .val (.ref b1), .val (.int (own_at (1 : Int32) p3 p4 p5 p6 (p3 ^^^ (-1 : Int32)) (p4 ^^^ (-1 : Int32)))), .val (.ref r43)] [(.ref r43)])) (fun _ k => XS.aload X378.here hx rfl (hb hby at_156) rfl rfl k) ?_
        refine Go.via (S' := T378.setTop (mkF m 163 #[.val (.int p1), .val (.int p2), .val (.int p3), .val (.int p4), .val (.int p5), .val (.int p6), .val (.int N_), .val (.int (1 : Int32)), .val (.int (p3 ^^^ (-1 : Int32))), .val (.int (p4 ^^^ (-1 : Int32))), .val (.ref b1), .val (.int (own_at (1 : Int32) p3 p4 p5 p6 (p3 ^^^ (-1 : Int32)) (p4 ^^^ (-1 : Int32)))), .val (.ref r43)] [])) (fun _ k => XS.ifnonnullYes X378.here hx rfl (pc0 := 158) (pc' := 163) rfl (hb hby at_158) rfl (by decide) (by decide) k) ?_
        refine Go.via (S' := T378.setTop (mkF m 165 #[.val (.int p1), .val (.int p2), .val (.int p3), .val (.int p4), .val (.int p5), .val (.int p6), .val (.int N_), .val (.int (1 : Int32)), .val (.int (p3 ^^^ (-1 : Int32))), .val (.int (p4 ^^^ (-1 : Int32))), .val (.ref b1), .val (.int (own_at (1 : Int32) p3 p4 p5 p6 (p3 ^^^ (-1 : Int32)) (p4 ^^^ (-1 : Int32)))), .val (.ref r43)] [(.ref r43)])) (fun _ k => XS.aload X378.here hx rfl (hb hby at_163) rfl rfl k) ?_
        obtain ⟨cq379, kq379, q379a, q379b, q379c⟩ := isOf hZ e378 f69
        obtain ⟨_, _, ⟨T379, L379, k379, n379⟩, -, X379, ⟨Lc379, hQ379, l379, y379, z379⟩, st379⟩ := X378.virtualBack hx (y := (⟨"java/lang/Integer", "intValue", "()I"⟩ : MethodName)) (z := (⟨"java/lang/Integer", "intValue", "()I"⟩ : MethodName)) hown (mvT hZ (hw _ (List.mem_of_getElem? (i := 82) rfl))) (mvT hZ (hw _ (List.mem_of_getElem? (i := 83) rfl))) (notFace_of_selects (args := #[]) (mvT hZ (hw _ (List.mem_of_getElem? (i := 85) rfl)))) (mvT hZ (hw _ (List.mem_of_getElem? (i := 85) rfl))) (mvT hZ (hw _ (List.mem_of_getElem? (i := 84) rfl))) (by decide) (backOf (W := 0) (rm13 l Z a0 hw [] r43 p4 T60.heap n0 z71 f70) hZ (hw _ (List.mem_of_getElem? (i := 86) rfl)) (hw _ (List.mem_of_getElem? (i := 29) rfl)) (by decide) (by decide)) q379a q379c (g := (mkF m 165 #[.val (.int p1), .val (.int p2), .val (.int p3), .val (.int p4), .val (.int p5), .val (.int p6), .val (.int N_), .val (.int (1 : Int32)), .val (.int (p3 ^^^ (-1 : Int32))), .val (.int (p4 ^^^ (-1 : Int32))), .val (.ref b1), .val (.int (own_at (1 : Int32) p3 p4 p5 p6 (p3 ^^^ (-1 : Int32)) (p4 ^^^ (-1 : Int32)))), .val (.ref r43)] [(.ref r43)])) rfl (by rw [hml]; rfl) (Steps.refl _) (argsL := []) (rest := []) (lenOf pd_9 rfl) rfl (by show 2 * 0 + _ ≤ _; exact Nat.le_of_eq rfl) (hb hby at_165) (fun _ _ => ⟨rfl, e378, (by decide : 4 + 0 ≤ _), (by decide : 9 + 0 ≤ _)⟩)
        dsimp only [Pt.U, Pt.locs, Pt.cells, Pt.slots] at X379 l379 y379 z379 st379 hQ379
        subst l379 y379 z379
        obtain ⟨rfl, N379q, e379⟩ := hQ379
        have N380 := Fr.app N377 N379q
        refine Go.via (S' := T379.setTop (mkF m 168 #[.val (.int p1), .val (.int p2), .val (.int p3), .val (.int p4), .val (.int p5), .val (.int p6), .val (.int N_), .val (.int (1 : Int32)), .val (.int (p3 ^^^ (-1 : Int32))), .val (.int (p4 ^^^ (-1 : Int32))), .val (.ref b1), .val (.int (own_at (1 : Int32) p3 p4 p5 p6 (p3 ^^^ (-1 : Int32)) (p4 ^^^ (-1 : Int32)))), .val (.ref r43)] [(.int p4)])) (fun _ k => st379.trans k) ?_
        refine Go.via (S' := T379.setTop (mkF m 170 #[.val (.int p1), .val (.int p2), .val (.int p3), .val (.int p4), .val (.int p5), .val (.int p6), .val (.int N_), .val (.int (1 : Int32)), .val (.int (p3 ^^^ (-1 : Int32))), .val (.int (p4 ^^^ (-1 : Int32))), .val (.ref b1), .val (.int (own_at (1 : Int32) p3 p4 p5 p6 (p3 ^^^ (-1 : Int32)) (p4 ^^^ (-1 : Int32)))), .val (.ref r43)] [(.int (own_at (1 : Int32) p3 p4 p5 p6 (p3 ^^^ (-1 : Int32)) (p4 ^^^ (-1 : Int32)))), (.int p4)])) (fun _ k => XS.iload X379.here hx rfl (hb hby at_168) rfl k) ?_
        refine Go.via (S' := T379.setTop (mkF m 173 #[.val (.int p1), .val (.int p2), .val (.int p3), .val (.int p4), .val (.int p5), .val (.int p6), .val (.int N_), .val (.int (1 : Int32)), .val (.int (p3 ^^^ (-1 : Int32))), .val (.int (p4 ^^^ (-1 : Int32))), .val (.ref b1), .val (.int (own_at (1 : Int32) p3 p4 p5 p6 (p3 ^^^ (-1 : Int32)) (p4 ^^^ (-1 : Int32)))), .val (.ref r43)] [])) (fun _ k => XS.icmpNo X379.here hx rfl (hb hby at_170) rfl (teq (by simp [own_at])).2 k) ?_
        refine Go.via (S' := T379.setTop (mkF m 174 #[.val (.int p1), .val (.int p2), .val (.int p3), .val (.int p4), .val (.int p5), .val (.int p6), .val (.int N_), .val (.int (1 : Int32)), .val (.int (p3 ^^^ (-1 : Int32))), .val (.int (p4 ^^^ (-1 : Int32))), .val (.ref b1), .val (.int (own_at (1 : Int32) p3 p4 p5 p6 (p3 ^^^ (-1 : Int32)) (p4 ^^^ (-1 : Int32)))), .val (.ref r43)] [(.int (1 : Int32))])) (fun _ k => XS.iconst X379.here hx rfl (hb hby at_173) k) ?_
        refine Go.via (S' := T379.setTop (mkF m 178 #[.val (.int p1), .val (.int p2), .val (.int p3), .val (.int p4), .val (.int p5), .val (.int p6), .val (.int N_), .val (.int (1 : Int32)), .val (.int (p3 ^^^ (-1 : Int32))), .val (.int (p4 ^^^ (-1 : Int32))), .val (.ref b1), .val (.int (own_at (1 : Int32) p3 p4 p5 p6 (p3 ^^^ (-1 : Int32)) (p4 ^^^ (-1 : Int32)))), .val (.ref r43)] [(.int (1 : Int32))])) (fun _ k => XS.goto X379.here hx rfl (pc0 := 174) (pc' := 178) rfl (hb hby at_174) (by decide) (by decide) k) ?_
        exact Go.retB X379 hx (BodyLoose.notSynchronized Bd) Bd.returns (hb hby at_178) rfl (by rw [e379]; exact ⟨rfl, N380⟩) (by decide) (by decide)
  · refine Go.via (S' := T31.setTop (mkF m 63 #[.val (.int p1), .val (.int p2), .val (.int p3), .val (.int p4), .val (.int p5), .val (.int p6), .val (.int N_), .val (.int I_), .val (.int (p3 ^^^ (-1 : Int32))), .val (.int (p4 ^^^ (-1 : Int32))), .val (.ref b1), .unset, .unset] [])) (fun _ k => XS.icmpYes X31.here hx rfl (pc0 := 51) (pc' := 63) rfl (hb hby at_51) rfl (flt hc51).2.2.2 (by decide) (by decide) k) ?_
    refine Go.via (S' := T31.setTop (mkF m 65 #[.val (.int p1), .val (.int p2), .val (.int p3), .val (.int p4), .val (.int p5), .val (.int p6), .val (.int N_), .val (.int I_), .val (.int (p3 ^^^ (-1 : Int32))), .val (.int (p4 ^^^ (-1 : Int32))), .val (.ref b1), .unset, .unset] [(.int N_)])) (fun _ k => XS.iload X31.here hx rfl (hb hby at_63) rfl k) ?_
    refine Go.via (S' := T31.setTop (mkF m 66 #[.val (.int p1), .val (.int p2), .val (.int p3), .val (.int p4), .val (.int p5), .val (.int p6), .val (.int N_), .val (.int I_), .val (.int (p3 ^^^ (-1 : Int32))), .val (.int (p4 ^^^ (-1 : Int32))), .val (.ref b1), .unset, .unset] [(.int (2 : Int32)), (.int N_)])) (fun _ k => XS.iconst X31.here hx rfl (hb hby at_65) k) ?_
    refine Go.via (S' := T31.setTop (mkF m 79 #[.val (.int p1), .val (.int p2), .val (.int p3), .val (.int p4), .val (.int p5), .val (.int p6), .val (.int N_), .val (.int I_), .val (.int (p3 ^^^ (-1 : Int32))), .val (.int (p4 ^^^ (-1 : Int32))), .val (.ref b1), .unset, .unset] [])) (fun _ k => XS.icmpYes X31.here hx rfl (pc0 := 66) (pc' := 79) rfl (hb hby at_66) rfl (flt (fun q => by rw [Int32.lt_iff_toInt_lt] at hc51 q; revert q hc51; show ¬ (1 < N_.toInt) → 2 < N_.toInt → False; omega)).2.2.2 (by decide) (by decide) k) ?_
    refine Go.via (S' := T31.setTop (mkF m 81 #[.val (.int p1), .val (.int p2), .val (.int p3), .val (.int p4), .val (.int p5), .val (.int p6), .val (.int N_), .val (.int I_), .val (.int (p3 ^^^ (-1 : Int32))), .val (.int (p4 ^^^ (-1 : Int32))), .val (.ref b1), .unset, .unset] [(.int N_)])) (fun _ k => XS.iload X31.here hx rfl (hb hby at_79) rfl k) ?_
    refine Go.via (S' := T31.setTop (mkF m 82 #[.val (.int p1), .val (.int p2), .val (.int p3), .val (.int p4), .val (.int p5), .val (.int p6), .val (.int N_), .val (.int I_), .val (.int (p3 ^^^ (-1 : Int32))), .val (.int (p4 ^^^ (-1 : Int32))), .val (.ref b1), .unset, .unset] [(.int (3 : Int32)), (.int N_)])) (fun _ k => XS.iconst X31.here hx rfl (hb hby at_81) k) ?_
    refine Go.via (S' := T31.setTop (mkF m 95 #[.val (.int p1), .val (.int p2), .val (.int p3), .val (.int p4), .val (.int p5), .val (.int p6), .val (.int N_), .val (.int I_), .val (.int (p3 ^^^ (-1 : Int32))), .val (.int (p4 ^^^ (-1 : Int32))), .val (.ref b1), .unset, .unset] [])) (fun _ k => XS.icmpYes X31.here hx rfl (pc0 := 82) (pc' := 95) rfl (hb hby at_82) rfl (flt (fun q => by rw [Int32.lt_iff_toInt_lt] at hc51 q; revert q hc51; show ¬ (1 < N_.toInt) → 3 < N_.toInt → False; omega)).2.2.2 (by decide) (by decide) k) ?_
    refine Go.via (S' := T31.setTop (mkF m 97 #[.val (.int p1), .val (.int p2), .val (.int p3), .val (.int p4), .val (.int p5), .val (.int p6), .val (.int N_), .val (.int I_), .val (.int (p3 ^^^ (-1 : Int32))), .val (.int (p4 ^^^ (-1 : Int32))), .val (.ref b1), .unset, .unset] [(.int N_)])) (fun _ k => XS.iload X31.here hx rfl (hb hby at_95) rfl k) ?_
    refine Go.via (S' := T31.setTop (mkF m 98 #[.val (.int p1), .val (.int p2), .val (.int p3), .val (.int p4), .val (.int p5), .val (.int p6), .val (.int N_), .val (.int I_), .val (.int (p3 ^^^ (-1 : Int32))), .val (.int (p4 ^^^ (-1 : Int32))), .val (.ref b1), .unset, .unset] [(.int (4 : Int32)), (.int N_)])) (fun _ k => XS.iconst X31.here hx rfl (hb hby at_97) k) ?_
    refine Go.via (S' := T31.setTop (mkF m 111 #[.val (.int p1), .val (.int p2), .val (.int p3), .val (.int p4), .val (.int p5), .val (.int p6), .val (.int N_), .val (.int I_), .val (.int (p3 ^^^ (-1 : Int32))), .val (.int (p4 ^^^ (-1 : Int32))), .val (.ref b1), .unset, .unset] [])) (fun _ k => XS.icmpYes X31.here hx rfl (pc0 := 98) (pc' := 111) rfl (hb hby at_98) rfl (flt (fun q => by rw [Int32.lt_iff_toInt_lt] at hc51 q; revert q hc51; show ¬ (1 < N_.toInt) → 4 < N_.toInt → False; omega)).2.2.2 (by decide) (by decide) k) ?_
    refine Go.via (S' := T31.setTop (mkF m 113 #[.val (.int p1), .val (.int p2), .val (.int p3), .val (.int p4), .val (.int p5), .val (.int p6), .val (.int N_), .val (.int I_), .val (.int (p3 ^^^ (-1 : Int32))), .val (.int (p4 ^^^ (-1 : Int32))), .val (.ref b1), .unset, .unset] [(.int N_)])) (fun _ k => XS.iload X31.here hx rfl (hb hby at_111) rfl k) ?_
    refine Go.via (S' := T31.setTop (mkF m 114 #[.val (.int p1), .val (.int p2), .val (.int p3), .val (.int p4), .val (.int p5), .val (.int p6), .val (.int N_), .val (.int I_), .val (.int (p3 ^^^ (-1 : Int32))), .val (.int (p4 ^^^ (-1 : Int32))), .val (.ref b1), .unset, .unset] [(.int (5 : Int32)), (.int N_)])) (fun _ k => XS.iconst X31.here hx rfl (hb hby at_113) k) ?_
    refine Go.via (S' := T31.setTop (mkF m 127 #[.val (.int p1), .val (.int p2), .val (.int p3), .val (.int p4), .val (.int p5), .val (.int p6), .val (.int N_), .val (.int I_), .val (.int (p3 ^^^ (-1 : Int32))), .val (.int (p4 ^^^ (-1 : Int32))), .val (.ref b1), .unset, .unset] [])) (fun _ k => XS.icmpYes X31.here hx rfl (pc0 := 114) (pc' := 127) rfl (hb hby at_114) rfl (flt (fun q => by rw [Int32.lt_iff_toInt_lt] at hc51 q; revert q hc51; show ¬ (1 < N_.toInt) → 5 < N_.toInt → False; omega)).2.2.2 (by decide) (by decide) k) ?_
    have hm : I_.toInt < 1 := by
      have t51 : ¬ (1 < N_.toInt) := by rw [Int32.lt_iff_toInt_lt] at hc51; exact hc51
      have := hN.2
      have := hI.2
      omega
    rcases (by have := hI.1; omega : I_.toInt = 0) with hi
    · obtain rfl : I_ = (0 : Int32) := Int32.toInt_inj.mp hi
      refine Go.via (S' := T31.setTop (mkF m 129 #[.val (.int p1), .val (.int p2), .val (.int p3), .val (.int p4), .val (.int p5), .val (.int p6), .val (.int N_), .val (.int (0 : Int32)), .val (.int (p3 ^^^ (-1 : Int32))), .val (.int (p4 ^^^ (-1 : Int32))), .val (.ref b1), .unset, .unset] [(.int (0 : Int32))])) (fun _ k => XS.iload X31.here hx rfl (hb hby at_127) rfl k) ?_
      refine Go.via (S' := T31.setTop (mkF m 130 #[.val (.int p1), .val (.int p2), .val (.int p3), .val (.int p4), .val (.int p5), .val (.int p6), .val (.int N_), .val (.int (0 : Int32)), .val (.int (p3 ^^^ (-1 : Int32))), .val (.int (p4 ^^^ (-1 : Int32))), .val (.ref b1), .unset, .unset] [(.int p3), (.int (0 : Int32))])) (fun _ k => XS.iloadN X31.here hx rfl (hb hby at_129) rfl k) ?_
      refine Go.via (S' := T31.setTop (mkF m 131 #[.val (.int p1), .val (.int p2), .val (.int p3), .val (.int p4), .val (.int p5), .val (.int p6), .val (.int N_), .val (.int (0 : Int32)), .val (.int (p3 ^^^ (-1 : Int32))), .val (.int (p4 ^^^ (-1 : Int32))), .val (.ref b1), .unset, .unset] [(.int p4), (.int p3), (.int (0 : Int32))])) (fun _ k => XS.iloadN X31.here hx rfl (hb hby at_130) rfl k) ?_
      refine Go.via (S' := T31.setTop (mkF m 133 #[.val (.int p1), .val (.int p2), .val (.int p3), .val (.int p4), .val (.int p5), .val (.int p6), .val (.int N_), .val (.int (0 : Int32)), .val (.int (p3 ^^^ (-1 : Int32))), .val (.int (p4 ^^^ (-1 : Int32))), .val (.ref b1), .unset, .unset] [(.int p5), (.int p4), (.int p3), (.int (0 : Int32))])) (fun _ k => XS.iload X31.here hx rfl (hb hby at_131) rfl k) ?_
      refine Go.via (S' := T31.setTop (mkF m 135 #[.val (.int p1), .val (.int p2), .val (.int p3), .val (.int p4), .val (.int p5), .val (.int p6), .val (.int N_), .val (.int (0 : Int32)), .val (.int (p3 ^^^ (-1 : Int32))), .val (.int (p4 ^^^ (-1 : Int32))), .val (.ref b1), .unset, .unset] [(.int p6), (.int p5), (.int p4), (.int p3), (.int (0 : Int32))])) (fun _ k => XS.iload X31.here hx rfl (hb hby at_133) rfl k) ?_
      refine Go.via (S' := T31.setTop (mkF m 137 #[.val (.int p1), .val (.int p2), .val (.int p3), .val (.int p4), .val (.int p5), .val (.int p6), .val (.int N_), .val (.int (0 : Int32)), .val (.int (p3 ^^^ (-1 : Int32))), .val (.int (p4 ^^^ (-1 : Int32))), .val (.ref b1), .unset, .unset] [(.int (p3 ^^^ (-1 : Int32))), (.int p6), (.int p5), (.int p4), (.int p3), (.int (0 : Int32))])) (fun _ k => XS.iload X31.here hx rfl (hb hby at_135) rfl k) ?_
      refine Go.via (S' := T31.setTop (mkF m 139 #[.val (.int p1), .val (.int p2), .val (.int p3), .val (.int p4), .val (.int p5), .val (.int p6), .val (.int N_), .val (.int (0 : Int32)), .val (.int (p3 ^^^ (-1 : Int32))), .val (.int (p4 ^^^ (-1 : Int32))), .val (.ref b1), .unset, .unset] [(.int (p4 ^^^ (-1 : Int32))), (.int (p3 ^^^ (-1 : Int32))), (.int p6), (.int p5), (.int p4), (.int p3), (.int (0 : Int32))])) (fun _ k => XS.iload X31.here hx rfl (hb hby at_137) rfl k) ?_
      obtain ⟨_, _, ⟨T381, L381, k381, n381⟩, -, X381, ⟨Lc381, hQ381, l381, y381, z381⟩, st381⟩ := Jvm.LawKit.callS X31 hx (y := (⟨"com/example/tidegraph/tidegraph/graph/ElementListGetPinLaw", "expectedAt", "(IIIIIII)I"⟩ : MethodName)) hown (mvT hZ (hw _ (List.mem_of_getElem? (i := 71) rfl))) (mvT hZ (hw _ (List.mem_of_getElem? (i := 72) rfl))) (mvT hZ (hw _ (List.mem_of_getElem? (i := 73) rfl))) (mvT hZ (hw _ (List.mem_of_getElem? (i := 74) rfl))) (by decide) (backOf (W := 0) (rm11 l Z a0 hw [] (0 : Int32) p3 p4 p5 p6 (p3 ^^^ (-1 : Int32)) (p4 ^^^ (-1 : Int32)) T31.heap n0 z39) hZ (hw _ (List.mem_of_getElem? (i := 74) rfl)) (hw _ (List.mem_of_getElem? (i := 73) rfl)) (by decide) (by decide)) (g := (mkF m 139 #[.val (.int p1), .val (.int p2), .val (.int p3), .val (.int p4), .val (.int p5), .val (.int p6), .val (.int N_), .val (.int (0 : Int32)), .val (.int (p3 ^^^ (-1 : Int32))), .val (.int (p4 ^^^ (-1 : Int32))), .val (.ref b1), .unset, .unset] [(.int (p4 ^^^ (-1 : Int32))), (.int (p3 ^^^ (-1 : Int32))), (.int p6), (.int p5), (.int p4), (.int p3), (.int (0 : Int32))])) rfl (by rw [hml]; rfl) (argsL := [(.int (0 : Int32)), (.int p3), (.int p4), (.int p5), (.int p6), (.int (p3 ^^^ (-1 : Int32))), (.int (p4 ^^^ (-1 : Int32)))]) (rest := []) (lenOf pd_7 rfl) rfl (by show 2 * 0 + _ ≤ _; exact Nat.le_of_eq rfl) (hb hby at_139) (fun _ _ => ⟨rfl, rfl, (by decide : 3 + 0 ≤ _), (by decide : 8 + 0 ≤ _)⟩)
      dsimp only [Pt.U, Pt.locs, Pt.cells, Pt.slots] at X381 l381 y381 z381 st381 hQ381
      subst l381 y381 z381
      obtain ⟨rfl, N381q, e381⟩ := hQ381
      have N382 := Fr.app N32 N381q
      refine Go.via (S' := T381.setTop (mkF m 142 #[.val (.int p1), .val (.int p2), .val (.int p3), .val (.int p4), .val (.int p5), .val (.int p6), .val (.int N_), .val (.int (0 : Int32)), .val (.int (p3 ^^^ (-1 : Int32))), .val (.int (p4 ^^^ (-1 : Int32))), .val (.ref b1), .unset, .unset] [(.int (own_at (0 : Int32) p3 p4 p5 p6 (p3 ^^^ (-1 : Int32)) (p4 ^^^ (-1 : Int32))))])) (fun _ k => st381 _ k) ?_
      refine Go.via (S' := T381.setTop (mkF m 144 #[.val (.int p1), .val (.int p2), .val (.int p3), .val (.int p4), .val (.int p5), .val (.int p6), .val (.int N_), .val (.int (0 : Int32)), .val (.int (p3 ^^^ (-1 : Int32))), .val (.int (p4 ^^^ (-1 : Int32))), .val (.ref b1), .val (.int (own_at (0 : Int32) p3 p4 p5 p6 (p3 ^^^ (-1 : Int32)) (p4 ^^^ (-1 : Int32)))), .unset] [])) (fun _ k => XS.istore X381.here hx rfl (hb hby at_142) rfl (l' := #[.val (.int p1), .val (.int p2), .val (.int p3), .val (.int p4), .val (.int p5), .val (.int p6), .val (.int N_), .val (.int (0 : Int32)), .val (.int (p3 ^^^ (-1 : Int32))), .val (.int (p4 ^^^ (-1 : Int32))), .val (.ref b1), .val (.int (own_at (0 : Int32) p3 p4 p5 p6 (p3 ^^^ (-1 : Int32)) (p4 ^^^ (-1 : Int32)))), .unset]) rfl k) ?_
      refine Go.via (S' := T381.setTop (mkF m 146 #[.val (.int p1), .val (.int p2), .val (.int p3), .val (.int p4), .val (.int p5), .val (.int p6), .val (.int N_), .val (.int (0 : Int32)), .val (.int (p3 ^^^ (-1 : Int32))), .val (.int (p4 ^^^ (-1 : Int32))), .val (.ref b1), .val (.int (own_at (0 : Int32) p3 p4 p5 p6 (p3 ^^^ (-1 : Int32)) (p4 ^^^ (-1 : Int32)))), .unset] [(.ref b1)])) (fun _ k => XS.aload X381.here hx rfl (hb hby at_144) rfl rfl k) ?_
      refine Go.via (S' := T381.setTop (mkF m 148 #[.val (.int p1), .val (.int p2), .val (.int p3), .val (.int p4), .val (.int p5), .val (.int p6), .val (.int N_), .val (.int (0 : Int32)), .val (.int (p3 ^^^ (-1 : Int32))), .val (.int (p4 ^^^ (-1 : Int32))), .val (.ref b1), .val (.int (own_at (0 : Int32) p3 p4 p5 p6 (p3 ^^^ (-1 : Int32)) (p4 ^^^ (-1 : Int32)))), .unset] [(.int (0 : Int32)), (.ref b1)])) (fun _ k => XS.iload X381.here hx rfl (hb hby at_146) rfl k) ?_
      obtain ⟨cq383, kq383, q383a, q383b, q383c⟩ := isOf hZ e381 f36
      obtain ⟨_, _, ⟨T383, L383, k383, n383⟩, -, X383, ⟨Lc383, hQ383, l383, y383, z383⟩, st383⟩ := X381.virtualBack hx (y := (⟨"com/example/tidegraph/tidegraph/graph/ElementList", "get", "(I)Ljava/lang/Object;"⟩ : MethodName)) (z := (⟨"com/example/tidegraph/tidegraph/graph/ElementList", "get", "(I)Ljava/lang/Object;"⟩ : MethodName)) hown (mvT hZ (hw _ (List.mem_of_getElem? (i := 75) rfl))) (mvT hZ (hw _ (List.mem_of_getElem? (i := 76) rfl))) (notFace_of_selects (args := #[]) (mvT hZ (hw _ (List.mem_of_getElem? (i := 78) rfl)))) (mvT hZ (hw _ (List.mem_of_getElem? (i := 78) rfl))) (mvT hZ (hw _ (List.mem_of_getElem? (i := 77) rfl))) (by decide) (backOf (W := 0) (rm12 l Z a0 hw [] b1 (0 : Int32) ar31 k231 (4 : Int32) [(.ref r18), .null, .null, .null] (1 : Int32) r18 T31.heap n0 z39 Fe31 Fs31 Va31 (by decide) (by decide) rfl) hZ (hw _ (List.mem_of_getElem? (i := 79) rfl)) (hw _ (List.mem_of_getElem? (i := 3) rfl)) (by decide) (by decide)) q383a q383c (g := (mkF m 148 #[.val (.int p1), .val (.int p2), .val (.int p3), .val (.int p4), .val (.int p5), .val (.int p6), .val (.int N_), .val (.int (0 : Int32)), .val (.int (p3 ^^^ (-1 : Int32))), .val (.int (p4 ^^^ (-1 : Int32))), .val (.ref b1), .val (.int (own_at (0 : Int32) p3 p4 p5 p6 (p3 ^^^ (-1 : Int32)) (p4 ^^^ (-1 : Int32)))), .unset] [(.int (0 : Int32)), (.ref b1)])) rfl (by rw [hml]; rfl) (Steps.refl _) (argsL := [(.int (0 : Int32))]) (rest := []) (lenOf pd_8 rfl) rfl (by show 2 * 0 + _ ≤ _; exact Nat.le_of_eq rfl) (hb hby at_148) (fun _ _ => ⟨rfl, e381, (by decide : 3 + 0 ≤ _), (by decide : 8 + 0 ≤ _)⟩)
      dsimp only [Pt.U, Pt.locs, Pt.cells, Pt.slots] at X383 l383 y383 z383 st383 hQ383
      subst l383 y383 z383
      obtain ⟨rfl, N383q, e383⟩ := hQ383
      have N384 := Fr.app N382 N383q
      refine Go.via (S' := T383.setTop (mkF m 151 #[.val (.int p1), .val (.int p2), .val (.int p3), .val (.int p4), .val (.int p5), .val (.int p6), .val (.int N_), .val (.int (0 : Int32)), .val (.int (p3 ^^^ (-1 : Int32))), .val (.int (p4 ^^^ (-1 : Int32))), .val (.ref b1), .val (.int (own_at (0 : Int32) p3 p4 p5 p6 (p3 ^^^ (-1 : Int32)) (p4 ^^^ (-1 : Int32)))), .unset] [(.ref r18)])) (fun _ k => st383.trans k) ?_
      obtain ⟨T385, X385, e385, st385⟩ := castY X383 hx hZ hown (hw _ (List.mem_of_getElem? (i := 80) rfl)) e383 (Ins.self f37) (g := (mkF m 151 #[.val (.int p1), .val (.int p2), .val (.int p3), .val (.int p4), .val (.int p5), .val (.int p6), .val (.int N_), .val (.int (0 : Int32)), .val (.int (p3 ^^^ (-1 : Int32))), .val (.int (p4 ^^^ (-1 : Int32))), .val (.ref b1), .val (.int (own_at (0 : Int32) p3 p4 p5 p6 (p3 ^^^ (-1 : Int32)) (p4 ^^^ (-1 : Int32)))), .unset] [(.ref r18)])) rfl rfl (hb hby at_151)
      refine Go.via (S' := T385.setTop (mkF m 154 #[.val (.int p1), .val (.int p2), .val (.int p3), .val (.int p4), .val (.int p5), .val (.int p6), .val (.int N_), .val (.int (0 : Int32)), .val (.int (p3 ^^^ (-1 : Int32))), .val (.int (p4 ^^^ (-1 : Int32))), .val (.ref b1), .val (.int (own_at (0 : Int32) p3 p4 p5 p6 (p3 ^^^ (-1 : Int32)) (p4 ^^^ (-1 : Int32)))), .unset] [(.ref r18)])) (fun _ k => st385 _ k) ?_
      refine Go.via (S' := T385.setTop (mkF m 156 #[.val (.int p1), .val (.int p2), .val (.int p3), .val (.int p4), .val (.int p5), .val (.int p6), .val (.int N_), .val (.int (0 : Int32)), .val (.int (p3 ^^^ (-1 : Int32))), .val (.int (p4 ^^^ (-1 : Int32))), .val (.ref b1), .val (.int (own_at (0 : Int32) p3 p4 p5 p6 (p3 ^^^ (-1 : Int32)) (p4 ^^^ (-1 : Int32)))), .val (.ref r18)] [])) (fun _ k => XS.astore X385.here hx rfl (hb hby at_154) rfl rfl (l' := #[.val (.int p1), .val (.int p2), .val (.int p3), .val (.int p4), .val (.int p5), .val (.int p6), .val (.int N_), .val (.int (0 : Int32)), .val (.int (p3 ^^^ (-1 : Int32))), .val (.int (p4 ^^^ (-1 : Int32))), .val (.ref b1), .val (.int (own_at (0 : Int32) p3 p4 p5 p6 (p3 ^^^ (-1 : Int32)) (p4 ^^^ (-1 : Int32)))), .val (.ref r18)]) rfl k) ?_
      refine Go.via (S' := T385.setTop (mkF m 158 #[.val (.int p1), .val (.int p2), .val (.int p3), .val (.int p4), .val (.int p5), .val (.int p6), .val (.int N_), .val (.int (0 : Int32)), .val (.int (p3 ^^^ (-1 : Int32))), .val (.int (p4 ^^^ (-1 : Int32))), .val (.ref b1), .val (.int (own_at (0 : Int32) p3 p4 p5 p6 (p3 ^^^ (-1 : Int32)) (p4 ^^^ (-1 : Int32)))), .val (.ref r18)] [(.ref r18)])) (fun _ k => XS.aload X385.here hx rfl (hb hby at_156) rfl rfl k) ?_
      refine Go.via (S' := T385.setTop (mkF m 163 #[.val (.int p1), .val (.int p2), .val (.int p3), .val (.int p4), .val (.int p5), .val (.int p6), .val (.int N_), .val (.int (0 : Int32)), .val (.int (p3 ^^^ (-1 : Int32))), .val (.int (p4 ^^^ (-1 : Int32))), .val (.ref b1), .val (.int (own_at (0 : Int32) p3 p4 p5 p6 (p3 ^^^ (-1 : Int32)) (p4 ^^^ (-1 : Int32)))), .val (.ref r18)] [])) (fun _ k => XS.ifnonnullYes X385.here hx rfl (pc0 := 158) (pc' := 163) rfl (hb hby at_158) rfl (by decide) (by decide) k) ?_
      refine Go.via (S' := T385.setTop (mkF m 165 #[.val (.int p1), .val (.int p2), .val (.int p3), .val (.int p4), .val (.int p5), .val (.int p6), .val (.int N_), .val (.int (0 : Int32)), .val (.int (p3 ^^^ (-1 : Int32))), .val (.int (p4 ^^^ (-1 : Int32))), .val (.ref b1), .val (.int (own_at (0 : Int32) p3 p4 p5 p6 (p3 ^^^ (-1 : Int32)) (p4 ^^^ (-1 : Int32)))), .val (.ref r18)] [(.ref r18)])) (fun _ k => XS.aload X385.here hx rfl (hb hby at_163) rfl rfl k) ?_
      obtain ⟨cq386, kq386, q386a, q386b, q386c⟩ := isOf hZ e385 f37
      obtain ⟨_, _, ⟨T386, L386, k386, n386⟩, -, X386, ⟨Lc386, hQ386, l386, y386, z386⟩, st386⟩ := X385.virtualBack hx (y := (⟨"java/lang/Integer", "intValue", "()I"⟩ : MethodName)) (z := (⟨"java/lang/Integer", "intValue", "()I"⟩ : MethodName)) hown (mvT hZ (hw _ (List.mem_of_getElem? (i := 82) rfl))) (mvT hZ (hw _ (List.mem_of_getElem? (i := 83) rfl))) (notFace_of_selects (args := #[]) (mvT hZ (hw _ (List.mem_of_getElem? (i := 85) rfl)))) (mvT hZ (hw _ (List.mem_of_getElem? (i := 85) rfl))) (mvT hZ (hw _ (List.mem_of_getElem? (i := 84) rfl))) (by decide) (backOf (W := 0) (rm13 l Z a0 hw [] r18 p3 T31.heap n0 z39 f38) hZ (hw _ (List.mem_of_getElem? (i := 86) rfl)) (hw _ (List.mem_of_getElem? (i := 29) rfl)) (by decide) (by decide)) q386a q386c (g := (mkF m 165 #[.val (.int p1), .val (.int p2), .val (.int p3), .val (.int p4), .val (.int p5), .val (.int p6), .val (.int N_), .val (.int (0 : Int32)), .val (.int (p3 ^^^ (-1 : Int32))), .val (.int (p4 ^^^ (-1 : Int32))), .val (.ref b1), .val (.int (own_at (0 : Int32) p3 p4 p5 p6 (p3 ^^^ (-1 : Int32)) (p4 ^^^ (-1 : Int32)))), .val (.ref r18)] [(.ref r18)])) rfl (by rw [hml]; rfl) (Steps.refl _) (argsL := []) (rest := []) (lenOf pd_9 rfl) rfl (by show 2 * 0 + _ ≤ _; exact Nat.le_of_eq rfl) (hb hby at_165) (fun _ _ => ⟨rfl, e385, (by decide : 3 + 0 ≤ _), (by decide : 8 + 0 ≤ _)⟩)
      dsimp only [Pt.U, Pt.locs, Pt.cells, Pt.slots] at X386 l386 y386 z386 st386 hQ386
      subst l386 y386 z386
      obtain ⟨rfl, N386q, e386⟩ := hQ386
      have N387 := Fr.app N384 N386q
      refine Go.via (S' := T386.setTop (mkF m 168 #[.val (.int p1), .val (.int p2), .val (.int p3), .val (.int p4), .val (.int p5), .val (.int p6), .val (.int N_), .val (.int (0 : Int32)), .val (.int (p3 ^^^ (-1 : Int32))), .val (.int (p4 ^^^ (-1 : Int32))), .val (.ref b1), .val (.int (own_at (0 : Int32) p3 p4 p5 p6 (p3 ^^^ (-1 : Int32)) (p4 ^^^ (-1 : Int32)))), .val (.ref r18)] [(.int p3)])) (fun _ k => st386.trans k) ?_
      refine Go.via (S' := T386.setTop (mkF m 170 #[.val (.int p1), .val (.int p2), .val (.int p3), .val (.int p4), .val (.int p5), .val (.int p6), .val (.int N_), .val (.int (0 : Int32)), .val (.int (p3 ^^^ (-1 : Int32))), .val (.int (p4 ^^^ (-1 : Int32))), .val (.ref b1), .val (.int (own_at (0 : Int32) p3 p4 p5 p6 (p3 ^^^ (-1 : Int32)) (p4 ^^^ (-1 : Int32)))), .val (.ref r18)] [(.int (own_at (0 : Int32) p3 p4 p5 p6 (p3 ^^^ (-1 : Int32)) (p4 ^^^ (-1 : Int32)))), (.int p3)])) (fun _ k => XS.iload X386.here hx rfl (hb hby at_168) rfl k) ?_
      refine Go.via (S' := T386.setTop (mkF m 173 #[.val (.int p1), .val (.int p2), .val (.int p3), .val (.int p4), .val (.int p5), .val (.int p6), .val (.int N_), .val (.int (0 : Int32)), .val (.int (p3 ^^^ (-1 : Int32))), .val (.int (p4 ^^^ (-1 : Int32))), .val (.ref b1), .val (.int (own_at (0 : Int32) p3 p4 p5 p6 (p3 ^^^ (-1 : Int32)) (p4 ^^^ (-1 : Int32)))), .val (.ref r18)] [])) (fun _ k => XS.icmpNo X386.here hx rfl (hb hby at_170) rfl (teq (by simp [own_at])).2 k) ?_
      refine Go.via (S' := T386.setTop (mkF m 174 #[.val (.int p1), .val (.int p2), .val (.int p3), .val (.int p4), .val (.int p5), .val (.int p6), .val (.int N_), .val (.int (0 : Int32)), .val (.int (p3 ^^^ (-1 : Int32))), .val (.int (p4 ^^^ (-1 : Int32))), .val (.ref b1), .val (.int (own_at (0 : Int32) p3 p4 p5 p6 (p3 ^^^ (-1 : Int32)) (p4 ^^^ (-1 : Int32)))), .val (.ref r18)] [(.int (1 : Int32))])) (fun _ k => XS.iconst X386.here hx rfl (hb hby at_173) k) ?_
      refine Go.via (S' := T386.setTop (mkF m 178 #[.val (.int p1), .val (.int p2), .val (.int p3), .val (.int p4), .val (.int p5), .val (.int p6), .val (.int N_), .val (.int (0 : Int32)), .val (.int (p3 ^^^ (-1 : Int32))), .val (.int (p4 ^^^ (-1 : Int32))), .val (.ref b1), .val (.int (own_at (0 : Int32) p3 p4 p5 p6 (p3 ^^^ (-1 : Int32)) (p4 ^^^ (-1 : Int32)))), .val (.ref r18)] [(.int (1 : Int32))])) (fun _ k => XS.goto X386.here hx rfl (pc0 := 174) (pc' := 178) rfl (hb hby at_174) (by decide) (by decide) k) ?_
      exact Go.retB X386 hx (BodyLoose.notSynchronized Bd) Bd.returns (hb hby at_178) rfl (by rw [e386]; exact ⟨rfl, N387⟩) (by decide) (by decide)
set_option maxRecDepth 65536 in
set_option maxHeartbeats 40000000 in
theorem comes_1 {Post : Tables → Env → Array Value → State → Outcome → State → Prop} (hpost : ∀ tb e args s v u, (limb_1_1.after args s (.returned v) u = true ∧ limb_1_2.after args s (.returned v) u = true ∧ True) → FrameEnd s (.returned v) u (Jvm.fieldLocs frame_1_writes args s ++ Jvm.arrayLocs frame_1_arrays args s ++ Jvm.staticLocs frame_1_statics s) 32 128 → Post tb e args s (.returned v) u) :
    ArmFor flags0 classFile x code maxLocals ret World_1 tables_1 room_1 Calls_1 rest_1 Pre_1 Post := by
  intro l hfl _ _ p e ha hc hk s m args below hf hA hF happ hP
  obtain ⟨hcalls, hrest, hpre⟩ := hP
  obtain ⟨-, -, -, hnamed, -, -, -, hat⟩ := (Spec.applies_iff hf).mp happ
  obtain ⟨hg, hn⟩ := and_e (Cond.before_iff.mp (show (Jvm.Cond.and given_1 narrow_1).before args s = true from hpre))
  obtain ⟨gg0, hg0⟩ := and_e hg
  obtain ⟨gg1, hg1⟩ := and_e hg0
  obtain ⟨gg2, hg2⟩ := and_e hg1
  obtain ⟨gg3, hg3⟩ := and_e hg2
  obtain ⟨gg4, hg4⟩ := and_e hg3
  obtain ⟨gg5, hg5⟩ := and_e hg4
  obtain ⟨w0, w1, w2, w3, w4, w5, rfl⟩ : ∃ w0 w1 w2 w3 w4 w5 : Value, args = #[w0, w1, w2, w3, w4, w5] := by
    have hs : args.size = 6 := by simpa [Cond.value, given_1] using gg0
    obtain ⟨L⟩ := args
    match L, hs with
    | [w0, w1, w2, w3, w4, w5], _ => exact ⟨w0, w1, w2, w3, w4, w5, rfl⟩
  have hw := fun d (hd : d ∈ tables_1) => atoms_spec (ws := Jvm.Cond.code x code maxLocals ret :: tables_1) hat d (List.mem_cons_of_mem _ hd)
  have hfit : Fit s := fun {y c} hc i hi => by
    obtain ⟨ha, rfl⟩ := Array.getElem?_eq_some_iff.mp hc
    have q := List.all_eq_true.mp ((Array.all_eq_true_iff_forall_mem.mp hF) _ (Array.getElem_mem ha)) i (List.mem_range.mpr hi)
    simpa [Array.getElem?_eq_getElem hi] using q
  obtain ⟨hsets, hown0⟩ := atoms_of _ (rest_1_c_eq ▸ (show rest_1_c.before _ s = true from hrest))
  obtain ⟨i0, ei0⟩ := is_v gg1
  obtain rfl : w0 = (.int i0) := Option.some.inj ei0
  obtain ⟨i1, ei1⟩ := is_v gg2
  obtain rfl : w1 = (.int i1) := Option.some.inj ei1
  obtain ⟨i2, ei2⟩ := is_v gg3
  obtain rfl : w2 = (.int i2) := Option.some.inj ei2
  obtain ⟨i3, ei3⟩ := is_v gg4
  obtain rfl : w3 = (.int i3) := Option.some.inj ei3
  obtain ⟨i4, ei4⟩ := is_v gg5
  obtain rfl : w4 = (.int i4) := Option.some.inj ei4
  obtain ⟨i5, ei5⟩ := is_v hg5
  obtain rfl : w5 = (.int i5) := Option.some.inj ei5
  have eh := eqv_i (Term.int_eval (127)) (Cond.before_iff.mp (hsets _ (List.mem_of_getElem? (i := 3) rfl)))
  have Sh := Sta.start eh (Or.inl (hsets _ (List.mem_of_getElem? (i := 1) rfl)))
  obtain ⟨ca, ec⟩ := arr_v (Cond.before_iff.mp (hsets _ (List.mem_of_getElem? (i := 4) rfl)))
  have Sc := Sta.start ec (Or.inr ⟨(hw _ (List.mem_of_getElem? (i := 32) rfl)), (hsets _ (List.mem_of_getElem? (i := 2) rfl))⟩)
  obtain ⟨cc, Ac⟩ := Arr.start ec (Cond.before_iff.mp (hsets _ (List.mem_of_getElem? (i := 4) rfl)))
  have hl2 := own_len ec (Ac.fin (Vm.Alike.refl _)) (eqv_i (Term.int_eval (256)) (Cond.before_iff.mp (hsets _ (List.mem_of_getElem? (i := 6) rfl))))
  have Bc : Bxs s ca cc "java/lang/Integer" "I" 256 (fun j => .int (j - 128)) := Bxs.start (fun _ => ec) Ac hl2.1 hl2.2 (by decide) (Cond.before_iff.mp (hsets _ (List.mem_of_getElem? (i := 7) rfl))) (fun X j nn hq => eqv_i (Term.sub_int (idx_at nn) (Term.int_eval 128)) hq)
  obtain ⟨n1, n2⟩ := and_e hn
  obtain ⟨n3, n4⟩ := and_e n2
  obtain ⟨na, en⟩ := arr_v n1
  have Sn := Sta.start en (Or.inr ⟨(hw _ (List.mem_of_getElem? (i := 3) rfl)), (hw _ (List.mem_of_getElem? (i := 24) rfl))⟩)
  obtain ⟨cn, An⟩ := Arr.start en n1
  have hn2 := own_len en (An.fin (Vm.Alike.refl _)) (eqv_i (Term.int_eval (0)) n4)
  have Vn : Arv s s.heap na cn.cls (.object "java/lang/Object") (0 : Int32) [] .null := Arv.start hfit An hn2.1 hn2.2 (by decide) rfl trivial
  have En := Exa.start en n3
  obtain ⟨mc, mk, mr, mm1, mm2, mm3, mm4⟩ := (show MirrorMade s "[Ljava/lang/Object;" from hcalls.1)
  have Mr : Mir s "[Ljava/lang/Object;" mr := ⟨mc, mk, mm1, mm2, mm3, mm4⟩
  obtain ⟨n, o, h1, h2, h3, _, L, rfl, ⟨rfl, N⟩, hq⟩ := rm0 l s _ hw tables_1 i0 i1 i2 i3 i4 i5 ca cc na cn.cls mr s.heap s.heap.size (Nat.le_refl _) (Old.start s) Sh Sc Bc Sn Vn En Mr p e ha hc hk s m _ below hf ((Spec.applies_iff_loose hf).mp happ).1 ⟨rfl, State.Warmed39.refl s, rfl⟩ trivial
  refine ⟨n, _, h1, h2, h3, hpost _ _ _ _ _ _ ⟨Cond.after_iff.mpr rfl, Cond.after_iff.mpr (eq_i res_at (Term.int_eval (1)) rfl), trivial⟩ ⟨hq.1, hq.2.1, (hq.2.2.sift fun y hy => Or.inr (N y hy)).mono (by decide) (by decide)⟩⟩
theorem main_1_1 : Claimed_1_1 := comes_1 fun _ _ _ _ _ _ h hF => ⟨h.1, hF⟩
theorem main_1_2 : Claimed_1_2 := comes_1 fun _ _ _ _ _ _ h hF => ⟨h.2.1, hF⟩
end Jvm.Pilot.@@N@@
namespace Jvm.Pilot.@@N@@
open Jvm Jvm.ClassFile Sem Op Lib Jvm.Free Jvm.Stand Jvm.Pilot.@@N@@.Jvm.D
/-! MADE BY PROGRAM (witnessworld.py) out of the Statement's table words and the real class files: 28 classes; the members and pool entries that the words name. The judged class is class 1, her method 1. -/
namespace start1
open Jvm.ClassFile
def u (s : String) : CpInfo := .utf8 (stringToUtf16 s)
/-- a pool by its gaps: so many unusable entries, then the entry; so many at the end -/
def gap : Nat → List CpInfo → List CpInfo
  | 0, r => r
  | n + 1, r => .unusable :: gap n r
def poolList (es : List (Nat × CpInfo)) (last : Nat) : List CpInfo := es.foldr (fun e r => gap e.1 (e.2 :: r)) (gap last [])
def pool (es : List (Nat × CpInfo)) (last : Nat) : Array CpInfo := ⟨poolList es last⟩
def fileOf (pool : Array CpInfo) (this : Nat) (attrs : Array Attribute := #[]) (ms : Array MethodInfo := #[]) (fl : Nat := 33) (sup : Nat := 0) (ifs : Array Nat := #[]) (fds : Array FieldInfo := #[]) : ClassFile where
  minorVersion := 0
  majorVersion := 65
  constantPool := pool
  accessFlags := fl
  thisClass := this
  superClass := sup
  interfaces := ifs
  fields := fds
  methods := ms
  attributes := attrs
def plain (name : String) (sup : Option ClassId) : Class where
  name := name
  kind := .ordinary
  loader := none
  accessFlags := 33
  super := sup
  interfaces := #[]
  cf := none
  fields := #[]
  methods := #[]
  instanceTypes := #[]
  staticTypes := #[]
  resolved := #[]
  callSites := []
  init := .initialized
  statics := none
  mirror := none

def pool0 : Array CpInfo := pool [(5, u "<init>"), (0, u "()V"), (1, .class_ 10), (1, u "java/lang/Object"), (0, u "getClass"), (0, u "()Ljava/lang/Class;")] 111

def k0c0 : Code := { maxStack := 0, maxLocals := 1, code := object_method_1_code, exceptionTable := #[], attributes := #[] }
def k0m0 : Method := { name := "<init>", desc := "()V", sig := { parameters := [], returnType := none }, accessFlags := 1, code := some k0c0 }
def k0m1 : Method := { name := "getClass", desc := "()Ljava/lang/Class;", sig := { parameters := [], returnType := some (.object "java/lang/Class") }, accessFlags := 273, code := none }
/-- java/lang/Object -/
def k0 : Class := { plain "java/lang/Object" none with
  accessFlags := 33
  interfaces := #[]
  cf := some (fileOf pool0 8 #[] #[{ accessFlags := 1, nameIndex := 5, descriptorIndex := 6, attributes := #[] }, { accessFlags := 273, nameIndex := 11, descriptorIndex := 12, attributes := #[] }] 33 0 #[] #[])
  fields := #[]
  methods := #[k0m0, k0m1]
  instanceTypes := #[]
  staticTypes := #[]
  resolved := Array.replicate 124 none
  statics := none }

def pool1 : Array CpInfo := pool [(2, .class_ 4), (0, .nameAndType 5 6), (0, u "java/lang/Object"), (0, u "<init>"), (0, u "()V"), (0, .integer 2147483647), (0, .class_ 9), (0, u "com/example/tidegraph/tidegraph/graph/ElementList"), (0, .methodref 8 3), (0, .methodref 12 13), (0, .class_ 14), (0, .nameAndType 15 16), (0, u "java/lang/Integer"), (0, u "valueOf"), (0, u "(I)Ljava/lang/Integer;"), (0, .methodref 8 18), (0, .nameAndType 19 20), (0, u "append"), (0, u "(Ljava/lang/Object;)V"), (0, .methodref 22 23), (0, .class_ 24), (0, .nameAndType 25 26), (0, u "com/example/tidegraph/tidegraph/graph/ElementListGetPinLaw"), (0, u "expectedAt"), (0, u "(IIIIIII)I"), (0, .methodref 8 28), (0, .nameAndType 29 30), (0, u "get"), (0, u "(I)Ljava/lang/Object;"), (0, .methodref 12 32), (0, .nameAndType 33 34), (0, u "intValue"), (0, u "()I"), (2, u "law"), (0, u "(IIIIII)Z")] 3

def k1m0 : Method := { name := "<init>", desc := "()V", sig := { parameters := [], returnType := none }, accessFlags := 1, code := none }
def k1c1 : Code := { maxStack := 7, maxLocals := 13, code := code, exceptionTable := #[], attributes := #[] }
def k1m1 : Method := { name := "law", desc := "(IIIIII)Z", sig := { parameters := [.int, .int, .int, .int, .int, .int], returnType := some .boolean }, accessFlags := 9, code := some k1c1 }
def k1c2 : Code := { maxStack := 2, maxLocals := 7, code := method_3_code, exceptionTable := #[], attributes := #[] }
def k1m2 : Method := { name := "expectedAt", desc := "(IIIIIII)I", sig := { parameters := [.int, .int, .int, .int, .int, .int, .int], returnType := some .int }, accessFlags := 10, code := some k1c2 }
/-- com/example/tidegraph/tidegraph/graph/ElementListGetPinLaw -/
def k1 : Class := { plain "com/example/tidegraph/tidegraph/graph/ElementListGetPinLaw" (some 0) with
  accessFlags := 49
  interfaces := #[]
  cf := some (fileOf pool1 22 #[] #[{ accessFlags := 1, nameIndex := 5, descriptorIndex := 6, attributes := #[] }, { accessFlags := 9, nameIndex := 37, descriptorIndex := 38, attributes := #[] }, { accessFlags := 10, nameIndex := 25, descriptorIndex := 26, attributes := #[] }] 49 2 #[] #[])
  fields := #[]
  methods := #[k1m0, k1m1, k1m2]
  instanceTypes := #[]
  staticTypes := #[]
  resolved := Array.replicate 42 none
  statics := none }

def pool2 : Array CpInfo := pool [(8, .class_ 10), (1, u "java/lang/Iterable"), (24, .class_ 36), (0, u "java/lang/Object")] 25

/-- java/lang/Iterable -/
def k2 : Class := { plain "java/lang/Iterable" (some 0) with
  accessFlags := 1537
  interfaces := #[]
  cf := some (fileOf pool2 8 #[] #[] 1537 35 #[] #[])
  fields := #[]
  methods := #[]
  instanceTypes := #[]
  staticTypes := #[]
  resolved := Array.replicate 62 none
  statics := none }

def pool3 : Array CpInfo := pool [(10, .class_ 12), (1, u "java/util/Collection"), (47, .class_ 61), (0, u "java/lang/Object"), (0, .class_ 63), (0, u "java/lang/Iterable")] 51

/-- java/util/Collection -/
def k3 : Class := { plain "java/util/Collection" (some 0) with
  accessFlags := 1537
  interfaces := #[2]
  cf := some (fileOf pool3 10 #[] #[] 1537 60 #[62] #[])
  fields := #[]
  methods := #[]
  instanceTypes := #[]
  staticTypes := #[]
  resolved := Array.replicate 115 none
  statics := none }

def pool4 : Array CpInfo := pool [(1, .methodref 2 3), (0, .class_ 4), (0, .nameAndType 5 6), (0, u "java/lang/Object"), (0, u "<init>"), (0, u "()V"), (1, .class_ 10), (1, u "java/util/AbstractCollection"), (66, .class_ 78), (0, u "java/util/Collection")] 81

def k4c0 : Code := { maxStack := 1, maxLocals := 1, code := jdk_22_method_1_code, exceptionTable := #[], attributes := #[] }
def k4m0 : Method := { name := "<init>", desc := "()V", sig := { parameters := [], returnType := none }, accessFlags := 4, code := some k4c0 }
/-- java/util/AbstractCollection -/
def k4 : Class := { plain "java/util/AbstractCollection" (some 0) with
  accessFlags := 1057
  interfaces := #[3]
  cf := some (fileOf pool4 8 #[] #[{ accessFlags := 4, nameIndex := 5, descriptorIndex := 6, attributes := #[] }] 1057 2 #[77] #[])
  fields := #[]
  methods := #[k4m0]
  instanceTypes := #[]
  staticTypes := #[]
  resolved := Array.replicate 160 none
  statics := none }

def pool5 : Array CpInfo := pool [(8, .class_ 10), (1, u "java/util/SequencedCollection"), (15, .class_ 27), (0, u "java/lang/Object"), (0, .class_ 29), (0, u "java/util/Collection")] 27

/-- java/util/SequencedCollection -/
def k5 : Class := { plain "java/util/SequencedCollection" (some 0) with
  accessFlags := 1537
  interfaces := #[3]
  cf := some (fileOf pool5 8 #[] #[] 1537 26 #[28] #[])
  fields := #[]
  methods := #[]
  instanceTypes := #[]
  staticTypes := #[]
  resolved := Array.replicate 57 none
  statics := none }

def pool6 : Array CpInfo := pool [(8, .class_ 10), (1, u "java/util/List"), (92, .class_ 104), (0, u "java/lang/Object"), (15, .class_ 121), (0, u "java/util/SequencedCollection")] 129

/-- java/util/List -/
def k6 : Class := { plain "java/util/List" (some 0) with
  accessFlags := 1537
  interfaces := #[5]
  cf := some (fileOf pool6 8 #[] #[] 1537 103 #[120] #[])
  fields := #[]
  methods := #[]
  instanceTypes := #[]
  staticTypes := #[]
  resolved := Array.replicate 251 none
  statics := none }

def pool7 : Array CpInfo := pool [(1, .methodref 2 3), (0, .class_ 4), (0, .nameAndType 5 6), (0, u "java/util/AbstractCollection"), (0, u "<init>"), (0, u "()V"), (0, .fieldref 8 9), (0, .class_ 10), (0, .nameAndType 11 12), (0, u "java/util/AbstractList"), (0, u "modCount"), (0, u "I"), (64, .class_ 78), (0, u "java/util/AbstractList$Itr"), (3, .class_ 83), (0, u "java/util/AbstractList$ListItr"), (9, .class_ 94), (0, u "java/util/AbstractList$RandomAccessSubList"), (3, .class_ 99), (0, u "java/util/AbstractList$SubList"), (33, .class_ 134), (0, u "java/util/List"), (73, .class_ 209), (0, u "java/util/AbstractList$SubList$1"), (0, .class_ 211), (0, u "java/util/AbstractList$RandomAccessSpliterator")] 6

def k7c0 : Code := { maxStack := 2, maxLocals := 1, code := jdk_39_method_1_code, exceptionTable := #[], attributes := #[] }
def k7m0 : Method := { name := "<init>", desc := "()V", sig := { parameters := [], returnType := none }, accessFlags := 4, code := some k7c0 }
/-- java/util/AbstractList -/
def k7 : Class := { plain "java/util/AbstractList" (some 4) with
  accessFlags := 1057
  interfaces := #[6]
  cf := some (fileOf pool7 8 #[.nestMembers #[93, 98, 208, 210, 82, 77]] #[{ accessFlags := 4, nameIndex := 5, descriptorIndex := 6, attributes := #[] }] 1057 2 #[133] #[{ accessFlags := 132, nameIndex := 11, descriptorIndex := 12, attributes := #[] }])
  fields := #[{ name := "modCount", type := .int, accessFlags := 132, slot := 0, constantValue := 0 }]
  methods := #[k7m0]
  instanceTypes := #[.int]
  staticTypes := #[]
  resolved := Array.replicate 218 none
  statics := none }

def pool8 : Array CpInfo := pool [(1, .class_ 2), (0, u "java/util/RandomAccess"), (0, .class_ 4), (0, u "java/lang/Object")] 2

/-- java/util/RandomAccess -/
def k8 : Class := { plain "java/util/RandomAccess" (some 0) with
  accessFlags := 1537
  interfaces := #[]
  cf := some (fileOf pool8 1 #[] #[] 1537 3 #[] #[])
  fields := #[]
  methods := #[]
  instanceTypes := #[]
  staticTypes := #[]
  resolved := Array.replicate 7 none
  statics := none }

def pool9 : Array CpInfo := pool [(1, .methodref 2 3), (0, .class_ 4), (0, .nameAndType 5 6), (0, u "java/util/AbstractList"), (0, u "<init>"), (0, u "()V"), (0, .fieldref 8 9), (0, .class_ 10), (0, .nameAndType 11 12), (0, u "com/example/tidegraph/tidegraph/graph/ElementList"), (0, u "NONE"), (0, u "[Ljava/lang/Object;"), (0, .fieldref 8 14), (0, .nameAndType 15 12), (0, u "elements"), (0, .fieldref 8 17), (0, .nameAndType 18 19), (0, u "size"), (0, u "I"), (0, .methodref 21 22), (0, .class_ 23), (0, .nameAndType 24 25), (0, u "java/lang/Math"), (0, u "max"), (0, u "(II)I"), (0, .methodref 27 28), (0, .class_ 29), (0, .nameAndType 30 31), (0, u "java/util/Arrays"), (0, u "copyOf"), (0, u "([Ljava/lang/Object;I)[Ljava/lang/Object;"), (0, .fieldref 8 33), (0, .nameAndType 34 19), (0, u "modCount"), (11, .class_ 47), (0, u "java/util/RandomAccess"), (0, u "FIRST_LENGTH"), (4, u "append"), (0, u "(Ljava/lang/Object;)V"), (3, u "get"), (0, u "(I)Ljava/lang/Object;")] 23

def k9c0 : Code := { maxStack := 2, maxLocals := 1, code := prog_8_method_1_code, exceptionTable := #[], attributes := #[] }
def k9m0 : Method := { name := "<init>", desc := "()V", sig := { parameters := [], returnType := none }, accessFlags := 0, code := some k9c0 }
def k9c1 : Code := { maxStack := 5, maxLocals := 2, code := prog_8_method_2_code, exceptionTable := #[], attributes := #[] }
def k9m1 : Method := { name := "append", desc := "(Ljava/lang/Object;)V", sig := { parameters := [(.object "java/lang/Object")], returnType := none }, accessFlags := 0, code := some k9c1 }
def k9c2 : Code := { maxStack := 4, maxLocals := 2, code := prog_8_method_3_code, exceptionTable := #[], attributes := #[] }
def k9m2 : Method := { name := "get", desc := "(I)Ljava/lang/Object;", sig := { parameters := [.int], returnType := some (.object "java/lang/Object") }, accessFlags := 1, code := some k9c2 }
/-- com/example/tidegraph/tidegraph/graph/ElementList -/
def k9 : Class := { plain "com/example/tidegraph/tidegraph/graph/ElementList" (some 7) with
  accessFlags := 48
  interfaces := #[8]
  cf := some (fileOf pool9 8 #[] #[{ accessFlags := 0, nameIndex := 5, descriptorIndex := 6, attributes := #[] }, { accessFlags := 0, nameIndex := 53, descriptorIndex := 54, attributes := #[] }, { accessFlags := 1, nameIndex := 58, descriptorIndex := 59, attributes := #[] }] 48 2 #[46] #[{ accessFlags := 26, nameIndex := 11, descriptorIndex := 12, attributes := #[] }, { accessFlags := 26, nameIndex := 48, descriptorIndex := 19, attributes := #[] }, { accessFlags := 2, nameIndex := 15, descriptorIndex := 12, attributes := #[] }, { accessFlags := 2, nameIndex := 18, descriptorIndex := 19, attributes := #[] }])
  fields := #[{ name := "NONE", type := (.array (.object "java/lang/Object")), accessFlags := 26, slot := 0, constantValue := 0 }, { name := "FIRST_LENGTH", type := .int, accessFlags := 26, slot := 1, constantValue := 0 }, { name := "elements", type := (.array (.object "java/lang/Object")), accessFlags := 2, slot := 1, constantValue := 0 }, { name := "size", type := .int, accessFlags := 2, slot := 2, constantValue := 0 }]
  methods := #[k9m0, k9m1, k9m2]
  instanceTypes := #[.int, (.array (.object "java/lang/Object")), .int]
  staticTypes := #[(.array (.object "java/lang/Object")), .int]
  resolved := Array.replicate 83 none
  statics := some 0 }

def pool10 : Array CpInfo := pool [(1, .class_ 2), (0, u "java/io/Serializable"), (0, .class_ 4), (0, u "java/lang/Object")] 2

/-- java/io/Serializable -/
def k10 : Class := { plain "java/io/Serializable" (some 0) with
  accessFlags := 1537
  interfaces := #[]
  cf := some (fileOf pool10 1 #[] #[] 1537 3 #[] #[])
  fields := #[]
  methods := #[]
  instanceTypes := #[]
  staticTypes := #[]
  resolved := Array.replicate 7 none
  statics := none }

def pool11 : Array CpInfo := pool [(1, .methodref 2 3), (0, .class_ 4), (0, .nameAndType 5 6), (0, u "java/lang/Object"), (0, u "<init>"), (0, u "()V"), (1, .class_ 10), (1, u "java/lang/Number"), (2, .class_ 14), (0, u "java/io/Serializable"), (0, u "serialVersionUID"), (0, u "J")] 20

def k11c0 : Code := { maxStack := 1, maxLocals := 1, code := jdk_18_method_1_code, exceptionTable := #[], attributes := #[] }
def k11m0 : Method := { name := "<init>", desc := "()V", sig := { parameters := [], returnType := none }, accessFlags := 1, code := some k11c0 }
/-- java/lang/Number -/
def k11 : Class := { plain "java/lang/Number" (some 0) with
  accessFlags := 1057
  interfaces := #[10]
  cf := some (fileOf pool11 8 #[] #[{ accessFlags := 1, nameIndex := 5, descriptorIndex := 6, attributes := #[] }] 1057 2 #[13] #[{ accessFlags := 26, nameIndex := 15, descriptorIndex := 16, attributes := #[] }])
  fields := #[{ name := "serialVersionUID", type := .long, accessFlags := 26, slot := 0, constantValue := 0 }]
  methods := #[k11m0]
  instanceTypes := #[]
  staticTypes := #[.long]
  resolved := Array.replicate 37 none
  statics := none }

def pool12 : Array CpInfo := pool [(1, .class_ 2), (0, u "java/lang/Comparable"), (0, .class_ 4), (0, u "java/lang/Object")] 7

/-- java/lang/Comparable -/
def k12 : Class := { plain "java/lang/Comparable" (some 0) with
  accessFlags := 1537
  interfaces := #[]
  cf := some (fileOf pool12 1 #[] #[] 1537 3 #[] #[])
  fields := #[]
  methods := #[]
  instanceTypes := #[]
  staticTypes := #[]
  resolved := Array.replicate 12 none
  statics := none }

def pool13 : Array CpInfo := pool [(1, .class_ 2), (0, u "java/lang/constant/Constable"), (0, .class_ 4), (0, u "java/lang/Object")] 6

/-- java/lang/constant/Constable -/
def k13 : Class := { plain "java/lang/constant/Constable" (some 0) with
  accessFlags := 1537
  interfaces := #[]
  cf := some (fileOf pool13 1 #[] #[] 1537 3 #[] #[])
  fields := #[]
  methods := #[]
  instanceTypes := #[]
  staticTypes := #[]
  resolved := Array.replicate 11 none
  statics := none }

def pool14 : Array CpInfo := pool [(1, .class_ 2), (0, u "java/lang/constant/ConstantDesc"), (0, .class_ 4), (0, u "java/lang/Object")] 32

/-- java/lang/constant/ConstantDesc -/
def k14 : Class := { plain "java/lang/constant/ConstantDesc" (some 0) with
  accessFlags := 1537
  interfaces := #[]
  cf := some (fileOf pool14 1 #[] #[] 1537 3 #[] #[])
  fields := #[]
  methods := #[]
  instanceTypes := #[]
  staticTypes := #[]
  resolved := Array.replicate 37 none
  statics := none }

def pool15 : Array CpInfo := pool [(1, .class_ 2), (0, u "java/lang/Integer"), (16, u "digits"), (0, u "[C"), (46, u "<init>"), (17, u "DigitOnes"), (0, u "[B"), (2, u "DigitTens"), (10, .nameAndType 67 101), (0, u "()V"), (19, u "()I"), (65, u "valueOf"), (0, u "(I)Ljava/lang/Integer;"), (0, .class_ 190), (0, u "java/lang/Integer$IntegerCache"), (0, .fieldref 189 192), (0, .nameAndType 193 194), (0, u "high"), (0, u "I"), (0, .fieldref 189 196), (0, .nameAndType 197 198), (0, u "cache"), (0, u "[Ljava/lang/Integer;"), (0, .methodref 1 200), (0, .nameAndType 67 201), (0, u "(I)V"), (0, .methodref 203 100), (0, .class_ 204), (0, u "java/lang/Number"), (0, .fieldref 1 206), (0, .nameAndType 207 194), (0, u "value"), (5, u "intValue"), (88, u "TYPE"), (0, u "Ljava/lang/Class;"), (0, .class_ 305), (0, u "java/lang/Comparable"), (0, .class_ 307), (0, u "java/lang/constant/Constable"), (0, .class_ 309), (0, u "java/lang/constant/ConstantDesc"), (0, u "MIN_VALUE"), (1, u "MAX_VALUE"), (3, u "SIZE"), (1, u "BYTES"), (1, u "serialVersionUID"), (0, u "J")] 131

def k15c0 : Code := { maxStack := 3, maxLocals := 1, code := jdk_33_method_22_code, exceptionTable := #[], attributes := #[] }
def k15m0 : Method := { name := "valueOf", desc := "(I)Ljava/lang/Integer;", sig := { parameters := [.int], returnType := some (.object "java/lang/Integer") }, accessFlags := 9, code := some k15c0 }
def k15c1 : Code := { maxStack := 2, maxLocals := 2, code := jdk_33_method_23_code, exceptionTable := #[], attributes := #[] }
def k15m1 : Method := { name := "<init>", desc := "(I)V", sig := { parameters := [.int], returnType := none }, accessFlags := 1, code := some k15c1 }
def k15c2 : Code := { maxStack := 1, maxLocals := 1, code := jdk_33_method_27_code, exceptionTable := #[], attributes := #[] }
def k15m2 : Method := { name := "intValue", desc := "()I", sig := { parameters := [], returnType := some .int }, accessFlags := 1, code := some k15c2 }
/-- java/lang/Integer -/
def k15 : Class := { plain "java/lang/Integer" (some 11) with
  accessFlags := 49
  interfaces := #[12, 13, 14]
  cf := some (fileOf pool15 1 #[.nestMembers #[189]] #[{ accessFlags := 9, nameIndex := 187, descriptorIndex := 188, attributes := #[] }, { accessFlags := 1, nameIndex := 67, descriptorIndex := 201, attributes := #[] }, { accessFlags := 1, nameIndex := 213, descriptorIndex := 121, attributes := #[] }] 49 203 #[304, 306, 308] #[{ accessFlags := 25, nameIndex := 310, descriptorIndex := 194, attributes := #[] }, { accessFlags := 25, nameIndex := 312, descriptorIndex := 194, attributes := #[] }, { accessFlags := 25, nameIndex := 302, descriptorIndex := 303, attributes := #[] }, { accessFlags := 24, nameIndex := 19, descriptorIndex := 20, attributes := #[] }, { accessFlags := 24, nameIndex := 89, descriptorIndex := 86, attributes := #[] }, { accessFlags := 24, nameIndex := 85, descriptorIndex := 86, attributes := #[] }, { accessFlags := 18, nameIndex := 207, descriptorIndex := 194, attributes := #[] }, { accessFlags := 25, nameIndex := 316, descriptorIndex := 194, attributes := #[] }, { accessFlags := 25, nameIndex := 318, descriptorIndex := 194, attributes := #[] }, { accessFlags := 26, nameIndex := 320, descriptorIndex := 321, attributes := #[] }])
  fields := #[{ name := "MIN_VALUE", type := .int, accessFlags := 25, slot := 0, constantValue := 0 }, { name := "MAX_VALUE", type := .int, accessFlags := 25, slot := 1, constantValue := 0 }, { name := "TYPE", type := (.object "java/lang/Class"), accessFlags := 25, slot := 2, constantValue := 0 }, { name := "digits", type := (.array .char), accessFlags := 24, slot := 3, constantValue := 0 }, { name := "DigitTens", type := (.array .byte), accessFlags := 24, slot := 4, constantValue := 0 }, { name := "DigitOnes", type := (.array .byte), accessFlags := 24, slot := 5, constantValue := 0 }, { name := "value", type := .int, accessFlags := 18, slot := 0, constantValue := 0 }, { name := "SIZE", type := .int, accessFlags := 25, slot := 6, constantValue := 0 }, { name := "BYTES", type := .int, accessFlags := 25, slot := 7, constantValue := 0 }, { name := "serialVersionUID", type := .long, accessFlags := 26, slot := 8, constantValue := 0 }]
  methods := #[k15m0, k15m1, k15m2]
  instanceTypes := #[.int]
  staticTypes := #[.int, .int, (.object "java/lang/Class"), (.array .char), (.array .byte), (.array .byte), .int, .int, .long]
  resolved := Array.replicate 453 none
  statics := none }

def pool16 : Array CpInfo := pool [(2, .class_ 4), (1, u "java/lang/Object"), (0, u "<init>"), (0, u "()V"), (0, .class_ 8), (0, u "java/lang/Integer"), (7, .class_ 18), (1, u "java/lang/Integer$IntegerCache"), (0, u "$assertionsDisabled"), (0, u "Z"), (26, u "high"), (0, u "I"), (8, u "archivedCache"), (0, u "[Ljava/lang/Integer;"), (12, u "cache"), (0, u "low")] 27

def k16m0 : Method := { name := "<init>", desc := "()V", sig := { parameters := [], returnType := none }, accessFlags := 2, code := none }
/-- java/lang/Integer$IntegerCache -/
def k16 : Class := { plain "java/lang/Integer$IntegerCache" (some 0) with
  accessFlags := 48
  interfaces := #[]
  cf := some (fileOf pool16 16 #[.nestHost 7] #[{ accessFlags := 2, nameIndex := 5, descriptorIndex := 6, attributes := #[] }] 48 2 #[] #[{ accessFlags := 24, nameIndex := 72, descriptorIndex := 48, attributes := #[] }, { accessFlags := 24, nameIndex := 47, descriptorIndex := 48, attributes := #[] }, { accessFlags := 24, nameIndex := 71, descriptorIndex := 58, attributes := #[] }, { accessFlags := 8, nameIndex := 57, descriptorIndex := 58, attributes := #[] }, { accessFlags := 4120, nameIndex := 19, descriptorIndex := 20, attributes := #[] }])
  fields := #[{ name := "low", type := .int, accessFlags := 24, slot := 0, constantValue := 0 }, { name := "high", type := .int, accessFlags := 24, slot := 1, constantValue := 0 }, { name := "cache", type := (.array (.object "java/lang/Integer")), accessFlags := 24, slot := 2, constantValue := 0 }, { name := "archivedCache", type := (.array (.object "java/lang/Integer")), accessFlags := 8, slot := 3, constantValue := 0 }, { name := "$assertionsDisabled", type := .boolean, accessFlags := 4120, slot := 4, constantValue := 0 }]
  methods := #[k16m0]
  instanceTypes := #[]
  staticTypes := #[.int, .int, (.array (.object "java/lang/Integer")), (.array (.object "java/lang/Integer")), .boolean]
  resolved := Array.replicate 100 none
  statics := some 1 }

def pool17 : Array CpInfo := pool [(1, .class_ 2), (0, u "java/lang/Math"), (1, .class_ 6), (1, u "java/lang/Object"), (0, u "<init>"), (0, u "()V"), (89, .class_ 100), (1, u "java/lang/Math$RandomNumberGeneratorHolder"), (71, u "negativeZeroFloatBits"), (0, u "J"), (2, u "negativeZeroDoubleBits"), (21, u "max"), (2, u "min"), (43, u "$assertionsDisabled"), (0, u "Z"), (88, u "(II)I"), (2, u "twoToTheDoubleScaleDown"), (0, u "D"), (4, u "twoToTheDoubleScaleUp"), (9, u "E"), (3, u "PI"), (2, u "TAU"), (2, u "DEGREES_TO_RADIANS"), (0, u "RADIANS_TO_DEGREES")] 94

def k17m0 : Method := { name := "<init>", desc := "()V", sig := { parameters := [], returnType := none }, accessFlags := 2, code := none }
def k17c1 : Code := { maxStack := 2, maxLocals := 2, code := jdk_29_method_65_code, exceptionTable := #[], attributes := #[] }
def k17m1 : Method := { name := "max", desc := "(II)I", sig := { parameters := [.int, .int], returnType := some .int }, accessFlags := 9, code := some k17c1 }
def k17c2 : Code := { maxStack := 2, maxLocals := 2, code := jdk_29_method_69_code, exceptionTable := #[], attributes := #[] }
def k17m2 : Method := { name := "min", desc := "(II)I", sig := { parameters := [.int, .int], returnType := some .int }, accessFlags := 9, code := some k17c2 }
/-- java/lang/Math -/
def k17 : Class := { plain "java/lang/Math" (some 0) with
  accessFlags := 49
  interfaces := #[]
  cf := some (fileOf pool17 1 #[.nestMembers #[98]] #[{ accessFlags := 2, nameIndex := 7, descriptorIndex := 8, attributes := #[] }, { accessFlags := 9, nameIndex := 198, descriptorIndex := 335, attributes := #[] }, { accessFlags := 9, nameIndex := 201, descriptorIndex := 335, attributes := #[] }] 49 4 #[] #[{ accessFlags := 25, nameIndex := 354, descriptorIndex := 339, attributes := #[] }, { accessFlags := 25, nameIndex := 358, descriptorIndex := 339, attributes := #[] }, { accessFlags := 25, nameIndex := 361, descriptorIndex := 339, attributes := #[] }, { accessFlags := 26, nameIndex := 364, descriptorIndex := 339, attributes := #[] }, { accessFlags := 26, nameIndex := 365, descriptorIndex := 339, attributes := #[] }, { accessFlags := 26, nameIndex := 172, descriptorIndex := 173, attributes := #[] }, { accessFlags := 26, nameIndex := 176, descriptorIndex := 173, attributes := #[] }, { accessFlags := 8, nameIndex := 344, descriptorIndex := 339, attributes := #[] }, { accessFlags := 8, nameIndex := 338, descriptorIndex := 339, attributes := #[] }, { accessFlags := 4120, nameIndex := 245, descriptorIndex := 246, attributes := #[] }])
  fields := #[{ name := "E", type := .double, accessFlags := 25, slot := 0, constantValue := 0 }, { name := "PI", type := .double, accessFlags := 25, slot := 1, constantValue := 0 }, { name := "TAU", type := .double, accessFlags := 25, slot := 2, constantValue := 0 }, { name := "DEGREES_TO_RADIANS", type := .double, accessFlags := 26, slot := 3, constantValue := 0 }, { name := "RADIANS_TO_DEGREES", type := .double, accessFlags := 26, slot := 4, constantValue := 0 }, { name := "negativeZeroFloatBits", type := .long, accessFlags := 26, slot := 5, constantValue := 0 }, { name := "negativeZeroDoubleBits", type := .long, accessFlags := 26, slot := 6, constantValue := 0 }, { name := "twoToTheDoubleScaleUp", type := .double, accessFlags := 8, slot := 7, constantValue := 0 }, { name := "twoToTheDoubleScaleDown", type := .double, accessFlags := 8, slot := 8, constantValue := 0 }, { name := "$assertionsDisabled", type := .boolean, accessFlags := 4120, slot := 9, constantValue := 0 }]
  methods := #[k17m0, k17m1, k17m2]
  instanceTypes := #[]
  staticTypes := #[.double, .double, .double, .double, .double, .long, .long, .double, .double, .boolean]
  resolved := Array.replicate 460 none
  statics := none }

def pool18 : Array CpInfo := pool [(2, .class_ 4), (1, u "java/lang/Object"), (0, u "<init>"), (0, u "()V"), (7, .class_ 16), (1, u "java/util/Arrays"), (57, .class_ 76), (1, u "java/util/Arrays$NaturalOrder"), (9, .methodref 2 87), (0, .nameAndType 88 89), (0, u "getClass"), (0, u "()Ljava/lang/Class;"), (20, .class_ 111), (0, u "[Ljava/lang/Object;"), (1, .class_ 115), (1, u "java/util/Arrays$LegacyMergeSort"), (1, u "Z"), (32, .methodref 151 152), (0, .class_ 153), (0, .nameAndType 154 155), (0, u "java/lang/System"), (0, u "arraycopy"), (0, u "(Ljava/lang/Object;ILjava/lang/Object;II)V"), (144, .methodref 14 301), (0, .nameAndType 302 303), (0, u "copyOf"), (0, u "([Ljava/lang/Object;ILjava/lang/Class;)[Ljava/lang/Object;"), (0, .methodref 305 306), (0, .class_ 307), (0, .nameAndType 308 309), (0, u "java/lang/Math"), (0, u "min"), (0, u "(II)I"), (65, .class_ 376), (0, u "java/util/Arrays$ArrayList"), (68, u "$assertionsDisabled"), (269, u "MIN_ARRAY_SORT_GRAN"), (0, u "I"), (2, u "INSERTIONSORT_THRESHOLD"), (140, u "([Ljava/lang/Object;I)[Ljava/lang/Object;"), (114, .class_ 976), (0, u "java/util/Arrays$ArrayItr")] 52

def k18m0 : Method := { name := "<init>", desc := "()V", sig := { parameters := [], returnType := none }, accessFlags := 2, code := none }
def k18c1 : Code := { maxStack := 3, maxLocals := 2, code := jdk_65_method_119_code, exceptionTable := #[], attributes := #[] }
def k18m1 : Method := { name := "copyOf", desc := "([Ljava/lang/Object;I)[Ljava/lang/Object;", sig := { parameters := [(.array (.object "java/lang/Object")), .int], returnType := some (.array (.object "java/lang/Object")) }, accessFlags := 9, code := some k18c1 }
def k18c2 : Code := { maxStack := 6, maxLocals := 4, code := jdk_65_method_120_code, exceptionTable := #[], attributes := #[] }
def k18m2 : Method := { name := "copyOf", desc := "([Ljava/lang/Object;ILjava/lang/Class;)[Ljava/lang/Object;", sig := { parameters := [(.array (.object "java/lang/Object")), .int, (.object "java/lang/Class")], returnType := some (.array (.object "java/lang/Object")) }, accessFlags := 9, code := some k18c2 }
/-- java/util/Arrays -/
def k18 : Class := { plain "java/util/Arrays" (some 0) with
  accessFlags := 49
  interfaces := #[]
  cf := some (fileOf pool18 14 #[.nestMembers #[975, 375, 113, 74]] #[{ accessFlags := 2, nameIndex := 5, descriptorIndex := 6, attributes := #[] }, { accessFlags := 9, nameIndex := 302, descriptorIndex := 860, attributes := #[] }, { accessFlags := 9, nameIndex := 302, descriptorIndex := 303, attributes := #[] }] 49 2 #[] #[{ accessFlags := 26, nameIndex := 715, descriptorIndex := 716, attributes := #[] }, { accessFlags := 26, nameIndex := 719, descriptorIndex := 716, attributes := #[] }, { accessFlags := 4120, nameIndex := 445, descriptorIndex := 117, attributes := #[] }])
  fields := #[{ name := "MIN_ARRAY_SORT_GRAN", type := .int, accessFlags := 26, slot := 0, constantValue := 0 }, { name := "INSERTIONSORT_THRESHOLD", type := .int, accessFlags := 26, slot := 1, constantValue := 0 }, { name := "$assertionsDisabled", type := .boolean, accessFlags := 4120, slot := 2, constantValue := 0 }]
  methods := #[k18m0, k18m1, k18m2]
  instanceTypes := #[]
  staticTypes := #[.int, .int, .boolean]
  resolved := Array.replicate 1029 none
  statics := none }

def pool19 : Array CpInfo := pool [(2, .class_ 4), (1, u "java/lang/Object"), (0, u "<init>"), (0, u "()V"), (1, .class_ 10), (1, u "java/lang/System"), (0, u "allowSecurityManager"), (0, u "I"), (16, u "cons"), (0, u "Ljava/io/Console;"), (77, .class_ 110), (1, u "java/lang/System$CallersHolder"), (43, u "initialErrStream"), (0, u "Ljava/io/PrintStream;"), (19, u "security"), (0, u "Ljava/lang/SecurityManager;"), (31, .class_ 209), (0, u "java/lang/System$1"), (7, u "props"), (0, u "Ljava/util/Properties;"), (2, u "lineSeparator"), (0, u "Ljava/lang/String;"), (96, .class_ 321), (1, u "java/lang/System$LoggerFinder"), (5, .class_ 328), (0, u "java/lang/System$Logger"), (67, u "err"), (2, u "out"), (91, u "notSupportedJnuEncoding"), (15, u "in"), (17, u "initialIn"), (0, u "Ljava/io/InputStream;"), (35, u "bootLayer"), (0, u "Ljava/lang/ModuleLayer;"), (99, .class_ 664), (0, u "java/lang/System$2"), (9, u "NEVER"), (2, u "MAYBE"), (49, u "arraycopy"), (0, u "(Ljava/lang/Object;ILjava/lang/Object;II)V"), (72, .class_ 802), (0, u "java/lang/System$Logger$Level")] 31

def k19m0 : Method := { name := "<init>", desc := "()V", sig := { parameters := [], returnType := none }, accessFlags := 2, code := none }
def k19m1 : Method := { name := "arraycopy", desc := "(Ljava/lang/Object;ILjava/lang/Object;II)V", sig := { parameters := [(.object "java/lang/Object"), .int, (.object "java/lang/Object"), .int, .int], returnType := none }, accessFlags := 265, code := none }
/-- java/lang/System -/
def k19 : Class := { plain "java/lang/System" (some 0) with
  accessFlags := 49
  interfaces := #[]
  cf := some (fileOf pool19 8 #[.nestMembers #[319, 327, 801, 108, 663, 208]] #[{ accessFlags := 2, nameIndex := 5, descriptorIndex := 6, attributes := #[] }, { accessFlags := 265, nameIndex := 727, descriptorIndex := 728, attributes := #[] }] 49 2 #[] #[{ accessFlags := 25, nameIndex := 507, descriptorIndex := 526, attributes := #[] }, { accessFlags := 25, nameIndex := 399, descriptorIndex := 155, attributes := #[] }, { accessFlags := 25, nameIndex := 396, descriptorIndex := 155, attributes := #[] }, { accessFlags := 10, nameIndex := 525, descriptorIndex := 526, attributes := #[] }, { accessFlags := 26, nameIndex := 674, descriptorIndex := 12, attributes := #[] }, { accessFlags := 26, nameIndex := 677, descriptorIndex := 12, attributes := #[] }, { accessFlags := 10, nameIndex := 11, descriptorIndex := 12, attributes := #[] }, { accessFlags := 74, nameIndex := 175, descriptorIndex := 176, attributes := #[] }, { accessFlags := 10, nameIndex := 491, descriptorIndex := 222, attributes := #[] }, { accessFlags := 74, nameIndex := 29, descriptorIndex := 30, attributes := #[] }, { accessFlags := 74, nameIndex := 154, descriptorIndex := 155, attributes := #[] }, { accessFlags := 10, nameIndex := 217, descriptorIndex := 218, attributes := #[] }, { accessFlags := 10, nameIndex := 221, descriptorIndex := 222, attributes := #[] }, { accessFlags := 8, nameIndex := 562, descriptorIndex := 563, attributes := #[] }])
  fields := #[{ name := "in", type := (.object "java/io/InputStream"), accessFlags := 25, slot := 0, constantValue := 0 }, { name := "out", type := (.object "java/io/PrintStream"), accessFlags := 25, slot := 1, constantValue := 0 }, { name := "err", type := (.object "java/io/PrintStream"), accessFlags := 25, slot := 2, constantValue := 0 }, { name := "initialIn", type := (.object "java/io/InputStream"), accessFlags := 10, slot := 3, constantValue := 0 }, { name := "NEVER", type := .int, accessFlags := 26, slot := 4, constantValue := 0 }, { name := "MAYBE", type := .int, accessFlags := 26, slot := 5, constantValue := 0 }, { name := "allowSecurityManager", type := .int, accessFlags := 10, slot := 6, constantValue := 0 }, { name := "security", type := (.object "java/lang/SecurityManager"), accessFlags := 74, slot := 7, constantValue := 0 }, { name := "notSupportedJnuEncoding", type := (.object "java/lang/String"), accessFlags := 10, slot := 8, constantValue := 0 }, { name := "cons", type := (.object "java/io/Console"), accessFlags := 74, slot := 9, constantValue := 0 }, { name := "initialErrStream", type := (.object "java/io/PrintStream"), accessFlags := 74, slot := 10, constantValue := 0 }, { name := "props", type := (.object "java/util/Properties"), accessFlags := 10, slot := 11, constantValue := 0 }, { name := "lineSeparator", type := (.object "java/lang/String"), accessFlags := 10, slot := 12, constantValue := 0 }, { name := "bootLayer", type := (.object "java/lang/ModuleLayer"), accessFlags := 8, slot := 13, constantValue := 0 }]
  methods := #[k19m0, k19m1]
  instanceTypes := #[]
  staticTypes := #[(.object "java/io/InputStream"), (.object "java/io/PrintStream"), (.object "java/io/PrintStream"), (.object "java/io/InputStream"), .int, .int, .int, (.object "java/lang/SecurityManager"), (.object "java/lang/String"), (.object "java/io/Console"), (.object "java/io/PrintStream"), (.object "java/util/Properties"), (.object "java/lang/String"), (.object "java/lang/ModuleLayer")]
  resolved := Array.replicate 834 none
  statics := none }

def pool20 : Array CpInfo := pool [(1, u "java/lang/Class"), (0, .class_ 1), (0, u "java/lang/Object"), (0, .class_ 3)] 0

/-- java/lang/Class -/
def k20 : Class := { plain "java/lang/Class" (some 0) with
  accessFlags := 49
  interfaces := #[]
  cf := some (fileOf pool20 2 #[] #[] 49 4 #[] #[])
  fields := #[]
  methods := #[]
  instanceTypes := #[]
  staticTypes := #[]
  resolved := Array.replicate 5 none
  statics := none }

def pool21 : Array CpInfo := pool [(1, u "java/lang/Cloneable"), (0, .class_ 1), (0, u "java/lang/Object"), (0, .class_ 3)] 3

/-- java/lang/Cloneable -/
def k21 : Class := { plain "java/lang/Cloneable" (some 0) with
  accessFlags := 1537
  interfaces := #[]
  cf := some (fileOf pool21 2 #[] #[] 1537 4 #[] #[])
  fields := #[]
  methods := #[]
  instanceTypes := #[]
  staticTypes := #[]
  resolved := Array.replicate 8 none
  statics := none }

/-- the primitive byte -/
def k22 : Class := { plain "byte" none with kind := .primitive 'B', accessFlags := 0x411 }
/-- [B -/
def k23 : Class := { plain "[B" (some 0) with kind := .array 22 .byte, interfaces := #[21, 10], accessFlags := 1041 }

/-- the primitive int -/
def k24 : Class := { plain "int" none with kind := .primitive 'I', accessFlags := 0x411 }
/-- [I -/
def k25 : Class := { plain "[I" (some 0) with kind := .array 24 .int, interfaces := #[21, 10], accessFlags := 1041 }

/-- [Ljava/lang/Integer; -/
def k26 : Class := { plain "[Ljava/lang/Integer;" (some 0) with kind := .array 15 (.object "java/lang/Integer"), interfaces := #[21, 10], accessFlags := 1041 }

/-- [Ljava/lang/Object; -/
def k27 : Class := { plain "[Ljava/lang/Object;" (some 0) with kind := .array 0 (.object "java/lang/Object"), interfaces := #[21, 10], accessFlags := 1041, mirror := some 2 }

def heap : Heap := #[{ cls := 9, slots := #[.ref 4, .int 0], vm := .statics 9 },
  { cls := 16, slots := #[.int 0, .int 127, .ref 3, .null, .int 0], vm := .statics 16 },
  { cls := 20, slots := #[], vm := .mirror 27 },
  { cls := 26, slots := #[.ref 5, .ref 6, .ref 7, .ref 8, .ref 9, .ref 10, .ref 11, .ref 12, .ref 13, .ref 14, .ref 15, .ref 16, .ref 17, .ref 18, .ref 19, .ref 20, .ref 21, .ref 22, .ref 23, .ref 24, .ref 25, .ref 26, .ref 27, .ref 28, .ref 29, .ref 30, .ref 31, .ref 32, .ref 33, .ref 34, .ref 35, .ref 36, .ref 37, .ref 38, .ref 39, .ref 40, .ref 41, .ref 42, .ref 43, .ref 44, .ref 45, .ref 46, .ref 47, .ref 48, .ref 49, .ref 50, .ref 51, .ref 52, .ref 53, .ref 54, .ref 55, .ref 56, .ref 57, .ref 58, .ref 59, .ref 60, .ref 61, .ref 62, .ref 63, .ref 64, .ref 65, .ref 66, .ref 67, .ref 68, .ref 69, .ref 70, .ref 71, .ref 72, .ref 73, .ref 74, .ref 75, .ref 76, .ref 77, .ref 78, .ref 79, .ref 80, .ref 81, .ref 82, .ref 83, .ref 84, .ref 85, .ref 86, .ref 87, .ref 88, .ref 89, .ref 90, .ref 91, .ref 92, .ref 93, .ref 94, .ref 95, .ref 96, .ref 97, .ref 98, .ref 99, .ref 100, .ref 101, .ref 102, .ref 103, .ref 104, .ref 105, .ref 106, .ref 107, .ref 108, .ref 109, .ref 110, .ref 111, .ref 112, .ref 113, .ref 114, .ref 115, .ref 116, .ref 117, .ref 118, .ref 119, .ref 120, .ref 121, .ref 122, .ref 123, .ref 124, .ref 125, .ref 126, .ref 127, .ref 128, .ref 129, .ref 130, .ref 131, .ref 132, .ref 133, .ref 134, .ref 135, .ref 136, .ref 137, .ref 138, .ref 139, .ref 140, .ref 141, .ref 142, .ref 143, .ref 144, .ref 145, .ref 146, .ref 147, .ref 148, .ref 149, .ref 150, .ref 151, .ref 152, .ref 153, .ref 154, .ref 155, .ref 156, .ref 157, .ref 158, .ref 159, .ref 160, .ref 161, .ref 162, .ref 163, .ref 164, .ref 165, .ref 166, .ref 167, .ref 168, .ref 169, .ref 170, .ref 171, .ref 172, .ref 173, .ref 174, .ref 175, .ref 176, .ref 177, .ref 178, .ref 179, .ref 180, .ref 181, .ref 182, .ref 183, .ref 184, .ref 185, .ref 186, .ref 187, .ref 188, .ref 189, .ref 190, .ref 191, .ref 192, .ref 193, .ref 194, .ref 195, .ref 196, .ref 197, .ref 198, .ref 199, .ref 200, .ref 201, .ref 202, .ref 203, .ref 204, .ref 205, .ref 206, .ref 207, .ref 208, .ref 209, .ref 210, .ref 211, .ref 212, .ref 213, .ref 214, .ref 215, .ref 216, .ref 217, .ref 218, .ref 219, .ref 220, .ref 221, .ref 222, .ref 223, .ref 224, .ref 225, .ref 226, .ref 227, .ref 228, .ref 229, .ref 230, .ref 231, .ref 232, .ref 233, .ref 234, .ref 235, .ref 236, .ref 237, .ref 238, .ref 239, .ref 240, .ref 241, .ref 242, .ref 243, .ref 244, .ref 245, .ref 246, .ref 247, .ref 248, .ref 249, .ref 250, .ref 251, .ref 252, .ref 253, .ref 254, .ref 255, .ref 256, .ref 257, .ref 258, .ref 259, .ref 260], vm := .none },
  { cls := 27, slots := #[], vm := .none },
  { cls := 15, slots := #[.int (-128)], vm := .none },
  { cls := 15, slots := #[.int (-127)], vm := .none },
  { cls := 15, slots := #[.int (-126)], vm := .none },
  { cls := 15, slots := #[.int (-125)], vm := .none },
  { cls := 15, slots := #[.int (-124)], vm := .none },
  { cls := 15, slots := #[.int (-123)], vm := .none },
  { cls := 15, slots := #[.int (-122)], vm := .none },
  { cls := 15, slots := #[.int (-121)], vm := .none },
  { cls := 15, slots := #[.int (-120)], vm := .none },
  { cls := 15, slots := #[.int (-119)], vm := .none },
  { cls := 15, slots := #[.int (-118)], vm := .none },
  { cls := 15, slots := #[.int (-117)], vm := .none },
  { cls := 15, slots := #[.int (-116)], vm := .none },
  { cls := 15, slots := #[.int (-115)], vm := .none },
  { cls := 15, slots := #[.int (-114)], vm := .none },
  { cls := 15, slots := #[.int (-113)], vm := .none },
  { cls := 15, slots := #[.int (-112)], vm := .none },
  { cls := 15, slots := #[.int (-111)], vm := .none },
  { cls := 15, slots := #[.int (-110)], vm := .none },
  { cls := 15, slots := #[.int (-109)], vm := .none },
  { cls := 15, slots := #[.int (-108)], vm := .none },
  { cls := 15, slots := #[.int (-107)], vm := .none },
  { cls := 15, slots := #[.int (-106)], vm := .none },
  { cls := 15, slots := #[.int (-105)], vm := .none },
  { cls := 15, slots := #[.int (-104)], vm := .none },
  { cls := 15, slots := #[.int (-103)], vm := .none },
  { cls := 15, slots := #[.int (-102)], vm := .none },
  { cls := 15, slots := #[.int (-101)], vm := .none },
  { cls := 15, slots := #[.int (-100)], vm := .none },
  { cls := 15, slots := #[.int (-99)], vm := .none },
  { cls := 15, slots := #[.int (-98)], vm := .none },
  { cls := 15, slots := #[.int (-97)], vm := .none },
  { cls := 15, slots := #[.int (-96)], vm := .none },
  { cls := 15, slots := #[.int (-95)], vm := .none },
  { cls := 15, slots := #[.int (-94)], vm := .none },
  { cls := 15, slots := #[.int (-93)], vm := .none },
  { cls := 15, slots := #[.int (-92)], vm := .none },
  { cls := 15, slots := #[.int (-91)], vm := .none },
  { cls := 15, slots := #[.int (-90)], vm := .none },
  { cls := 15, slots := #[.int (-89)], vm := .none },
  { cls := 15, slots := #[.int (-88)], vm := .none },
  { cls := 15, slots := #[.int (-87)], vm := .none },
  { cls := 15, slots := #[.int (-86)], vm := .none },
  { cls := 15, slots := #[.int (-85)], vm := .none },
  { cls := 15, slots := #[.int (-84)], vm := .none },
  { cls := 15, slots := #[.int (-83)], vm := .none },
  { cls := 15, slots := #[.int (-82)], vm := .none },
  { cls := 15, slots := #[.int (-81)], vm := .none },
  { cls := 15, slots := #[.int (-80)], vm := .none },
  { cls := 15, slots := #[.int (-79)], vm := .none },
  { cls := 15, slots := #[.int (-78)], vm := .none },
  { cls := 15, slots := #[.int (-77)], vm := .none },
  { cls := 15, slots := #[.int (-76)], vm := .none },
  { cls := 15, slots := #[.int (-75)], vm := .none },
  { cls := 15, slots := #[.int (-74)], vm := .none },
  { cls := 15, slots := #[.int (-73)], vm := .none },
  { cls := 15, slots := #[.int (-72)], vm := .none },
  { cls := 15, slots := #[.int (-71)], vm := .none },
  { cls := 15, slots := #[.int (-70)], vm := .none },
  { cls := 15, slots := #[.int (-69)], vm := .none },
  { cls := 15, slots := #[.int (-68)], vm := .none },
  { cls := 15, slots := #[.int (-67)], vm := .none },
  { cls := 15, slots := #[.int (-66)], vm := .none },
  { cls := 15, slots := #[.int (-65)], vm := .none },
  { cls := 15, slots := #[.int (-64)], vm := .none },
  { cls := 15, slots := #[.int (-63)], vm := .none },
  { cls := 15, slots := #[.int (-62)], vm := .none },
  { cls := 15, slots := #[.int (-61)], vm := .none },
  { cls := 15, slots := #[.int (-60)], vm := .none },
  { cls := 15, slots := #[.int (-59)], vm := .none },
  { cls := 15, slots := #[.int (-58)], vm := .none },
  { cls := 15, slots := #[.int (-57)], vm := .none },
  { cls := 15, slots := #[.int (-56)], vm := .none },
  { cls := 15, slots := #[.int (-55)], vm := .none },
  { cls := 15, slots := #[.int (-54)], vm := .none },
  { cls := 15, slots := #[.int (-53)], vm := .none },
  { cls := 15, slots := #[.int (-52)], vm := .none },
  { cls := 15, slots := #[.int (-51)], vm := .none },
  { cls := 15, slots := #[.int (-50)], vm := .none },
  { cls := 15, slots := #[.int (-49)], vm := .none },
  { cls := 15, slots := #[.int (-48)], vm := .none },
  { cls := 15, slots := #[.int (-47)], vm := .none },
  { cls := 15, slots := #[.int (-46)], vm := .none },
  { cls := 15, slots := #[.int (-45)], vm := .none },
  { cls := 15, slots := #[.int (-44)], vm := .none },
  { cls := 15, slots := #[.int (-43)], vm := .none },
  { cls := 15, slots := #[.int (-42)], vm := .none },
  { cls := 15, slots := #[.int (-41)], vm := .none },
  { cls := 15, slots := #[.int (-40)], vm := .none },
  { cls := 15, slots := #[.int (-39)], vm := .none },
  { cls := 15, slots := #[.int (-38)], vm := .none },
  { cls := 15, slots := #[.int (-37)], vm := .none },
  { cls := 15, slots := #[.int (-36)], vm := .none },
  { cls := 15, slots := #[.int (-35)], vm := .none },
  { cls := 15, slots := #[.int (-34)], vm := .none },
  { cls := 15, slots := #[.int (-33)], vm := .none },
  { cls := 15, slots := #[.int (-32)], vm := .none },
  { cls := 15, slots := #[.int (-31)], vm := .none },
  { cls := 15, slots := #[.int (-30)], vm := .none },
  { cls := 15, slots := #[.int (-29)], vm := .none },
  { cls := 15, slots := #[.int (-28)], vm := .none },
  { cls := 15, slots := #[.int (-27)], vm := .none },
  { cls := 15, slots := #[.int (-26)], vm := .none },
  { cls := 15, slots := #[.int (-25)], vm := .none },
  { cls := 15, slots := #[.int (-24)], vm := .none },
  { cls := 15, slots := #[.int (-23)], vm := .none },
  { cls := 15, slots := #[.int (-22)], vm := .none },
  { cls := 15, slots := #[.int (-21)], vm := .none },
  { cls := 15, slots := #[.int (-20)], vm := .none },
  { cls := 15, slots := #[.int (-19)], vm := .none },
  { cls := 15, slots := #[.int (-18)], vm := .none },
  { cls := 15, slots := #[.int (-17)], vm := .none },
  { cls := 15, slots := #[.int (-16)], vm := .none },
  { cls := 15, slots := #[.int (-15)], vm := .none },
  { cls := 15, slots := #[.int (-14)], vm := .none },
  { cls := 15, slots := #[.int (-13)], vm := .none },
  { cls := 15, slots := #[.int (-12)], vm := .none },
  { cls := 15, slots := #[.int (-11)], vm := .none },
  { cls := 15, slots := #[.int (-10)], vm := .none },
  { cls := 15, slots := #[.int (-9)], vm := .none },
  { cls := 15, slots := #[.int (-8)], vm := .none },
  { cls := 15, slots := #[.int (-7)], vm := .none },
  { cls := 15, slots := #[.int (-6)], vm := .none },
  { cls := 15, slots := #[.int (-5)], vm := .none },
  { cls := 15, slots := #[.int (-4)], vm := .none },
  { cls := 15, slots := #[.int (-3)], vm := .none },
  { cls := 15, slots := #[.int (-2)], vm := .none },
  { cls := 15, slots := #[.int (-1)], vm := .none },
  { cls := 15, slots := #[.int (0)], vm := .none },
  { cls := 15, slots := #[.int (1)], vm := .none },
  { cls := 15, slots := #[.int (2)], vm := .none },
  { cls := 15, slots := #[.int (3)], vm := .none },
  { cls := 15, slots := #[.int (4)], vm := .none },
  { cls := 15, slots := #[.int (5)], vm := .none },
  { cls := 15, slots := #[.int (6)], vm := .none },
  { cls := 15, slots := #[.int (7)], vm := .none },
  { cls := 15, slots := #[.int (8)], vm := .none },
  { cls := 15, slots := #[.int (9)], vm := .none },
  { cls := 15, slots := #[.int (10)], vm := .none },
  { cls := 15, slots := #[.int (11)], vm := .none },
  { cls := 15, slots := #[.int (12)], vm := .none },
  { cls := 15, slots := #[.int (13)], vm := .none },
  { cls := 15, slots := #[.int (14)], vm := .none },
  { cls := 15, slots := #[.int (15)], vm := .none },
  { cls := 15, slots := #[.int (16)], vm := .none },
  { cls := 15, slots := #[.int (17)], vm := .none },
  { cls := 15, slots := #[.int (18)], vm := .none },
  { cls := 15, slots := #[.int (19)], vm := .none },
  { cls := 15, slots := #[.int (20)], vm := .none },
  { cls := 15, slots := #[.int (21)], vm := .none },
  { cls := 15, slots := #[.int (22)], vm := .none },
  { cls := 15, slots := #[.int (23)], vm := .none },
  { cls := 15, slots := #[.int (24)], vm := .none },
  { cls := 15, slots := #[.int (25)], vm := .none },
  { cls := 15, slots := #[.int (26)], vm := .none },
  { cls := 15, slots := #[.int (27)], vm := .none },
  { cls := 15, slots := #[.int (28)], vm := .none },
  { cls := 15, slots := #[.int (29)], vm := .none },
  { cls := 15, slots := #[.int (30)], vm := .none },
  { cls := 15, slots := #[.int (31)], vm := .none },
  { cls := 15, slots := #[.int (32)], vm := .none },
  { cls := 15, slots := #[.int (33)], vm := .none },
  { cls := 15, slots := #[.int (34)], vm := .none },
  { cls := 15, slots := #[.int (35)], vm := .none },
  { cls := 15, slots := #[.int (36)], vm := .none },
  { cls := 15, slots := #[.int (37)], vm := .none },
  { cls := 15, slots := #[.int (38)], vm := .none },
  { cls := 15, slots := #[.int (39)], vm := .none },
  { cls := 15, slots := #[.int (40)], vm := .none },
  { cls := 15, slots := #[.int (41)], vm := .none },
  { cls := 15, slots := #[.int (42)], vm := .none },
  { cls := 15, slots := #[.int (43)], vm := .none },
  { cls := 15, slots := #[.int (44)], vm := .none },
  { cls := 15, slots := #[.int (45)], vm := .none },
  { cls := 15, slots := #[.int (46)], vm := .none },
  { cls := 15, slots := #[.int (47)], vm := .none },
  { cls := 15, slots := #[.int (48)], vm := .none },
  { cls := 15, slots := #[.int (49)], vm := .none },
  { cls := 15, slots := #[.int (50)], vm := .none },
  { cls := 15, slots := #[.int (51)], vm := .none },
  { cls := 15, slots := #[.int (52)], vm := .none },
  { cls := 15, slots := #[.int (53)], vm := .none },
  { cls := 15, slots := #[.int (54)], vm := .none },
  { cls := 15, slots := #[.int (55)], vm := .none },
  { cls := 15, slots := #[.int (56)], vm := .none },
  { cls := 15, slots := #[.int (57)], vm := .none },
  { cls := 15, slots := #[.int (58)], vm := .none },
  { cls := 15, slots := #[.int (59)], vm := .none },
  { cls := 15, slots := #[.int (60)], vm := .none },
  { cls := 15, slots := #[.int (61)], vm := .none },
  { cls := 15, slots := #[.int (62)], vm := .none },
  { cls := 15, slots := #[.int (63)], vm := .none },
  { cls := 15, slots := #[.int (64)], vm := .none },
  { cls := 15, slots := #[.int (65)], vm := .none },
  { cls := 15, slots := #[.int (66)], vm := .none },
  { cls := 15, slots := #[.int (67)], vm := .none },
  { cls := 15, slots := #[.int (68)], vm := .none },
  { cls := 15, slots := #[.int (69)], vm := .none },
  { cls := 15, slots := #[.int (70)], vm := .none },
  { cls := 15, slots := #[.int (71)], vm := .none },
  { cls := 15, slots := #[.int (72)], vm := .none },
  { cls := 15, slots := #[.int (73)], vm := .none },
  { cls := 15, slots := #[.int (74)], vm := .none },
  { cls := 15, slots := #[.int (75)], vm := .none },
  { cls := 15, slots := #[.int (76)], vm := .none },
  { cls := 15, slots := #[.int (77)], vm := .none },
  { cls := 15, slots := #[.int (78)], vm := .none },
  { cls := 15, slots := #[.int (79)], vm := .none },
  { cls := 15, slots := #[.int (80)], vm := .none },
  { cls := 15, slots := #[.int (81)], vm := .none },
  { cls := 15, slots := #[.int (82)], vm := .none },
  { cls := 15, slots := #[.int (83)], vm := .none },
  { cls := 15, slots := #[.int (84)], vm := .none },
  { cls := 15, slots := #[.int (85)], vm := .none },
  { cls := 15, slots := #[.int (86)], vm := .none },
  { cls := 15, slots := #[.int (87)], vm := .none },
  { cls := 15, slots := #[.int (88)], vm := .none },
  { cls := 15, slots := #[.int (89)], vm := .none },
  { cls := 15, slots := #[.int (90)], vm := .none },
  { cls := 15, slots := #[.int (91)], vm := .none },
  { cls := 15, slots := #[.int (92)], vm := .none },
  { cls := 15, slots := #[.int (93)], vm := .none },
  { cls := 15, slots := #[.int (94)], vm := .none },
  { cls := 15, slots := #[.int (95)], vm := .none },
  { cls := 15, slots := #[.int (96)], vm := .none },
  { cls := 15, slots := #[.int (97)], vm := .none },
  { cls := 15, slots := #[.int (98)], vm := .none },
  { cls := 15, slots := #[.int (99)], vm := .none },
  { cls := 15, slots := #[.int (100)], vm := .none },
  { cls := 15, slots := #[.int (101)], vm := .none },
  { cls := 15, slots := #[.int (102)], vm := .none },
  { cls := 15, slots := #[.int (103)], vm := .none },
  { cls := 15, slots := #[.int (104)], vm := .none },
  { cls := 15, slots := #[.int (105)], vm := .none },
  { cls := 15, slots := #[.int (106)], vm := .none },
  { cls := 15, slots := #[.int (107)], vm := .none },
  { cls := 15, slots := #[.int (108)], vm := .none },
  { cls := 15, slots := #[.int (109)], vm := .none },
  { cls := 15, slots := #[.int (110)], vm := .none },
  { cls := 15, slots := #[.int (111)], vm := .none },
  { cls := 15, slots := #[.int (112)], vm := .none },
  { cls := 15, slots := #[.int (113)], vm := .none },
  { cls := 15, slots := #[.int (114)], vm := .none },
  { cls := 15, slots := #[.int (115)], vm := .none },
  { cls := 15, slots := #[.int (116)], vm := .none },
  { cls := 15, slots := #[.int (117)], vm := .none },
  { cls := 15, slots := #[.int (118)], vm := .none },
  { cls := 15, slots := #[.int (119)], vm := .none },
  { cls := 15, slots := #[.int (120)], vm := .none },
  { cls := 15, slots := #[.int (121)], vm := .none },
  { cls := 15, slots := #[.int (122)], vm := .none },
  { cls := 15, slots := #[.int (123)], vm := .none },
  { cls := 15, slots := #[.int (124)], vm := .none },
  { cls := 15, slots := #[.int (125)], vm := .none },
  { cls := 15, slots := #[.int (126)], vm := .none },
  { cls := 15, slots := #[.int (127)], vm := .none }]
def classes : Array Class := #[k0, k1, k2, k3, k4, k5, k6, k7, k8, k9, k10, k11, k12, k13, k14, k15, k16, k17, k18, k19, k20, k21, k22, k23, k24, k25, k26, k27]
def interned : List (Array UInt16 × Addr) := []
def slotsUsed : Nat := 519
def theMethod : MethodId := ⟨1, 1⟩
def args0 : Array Value := #[.int 1, .int 2, .int 3, .int 4, .int 5, .int 6]
def aboutOver (below : List Frame) : State where
  vm := { classes := classes, interned := interned.toArray }
  heap := heap
  slotsUsed := slotsUsed
  threads := #[{ frames := .invoking theMethod args0 :: below }]
def below0 : List Frame := [.native { method := ⟨0, 0⟩, args := #[] }]
def about1 : State := aboutOver below0
def p0 : Program := .bare "" "" ""
def e0 : Env := launch0.env 0 0 0
theorem w_frames : about1.frames = Frame.invoking theMethod args0 :: below0 := rfl
set_option maxRecDepth 65536 in
theorem w_args : argsFit about1.vm theMethod args0 = true := by decide +kernel
set_option maxRecDepth 65536 in
theorem w_heap : heapFits about1 = true := by decide +kernel
set_option maxRecDepth 65536 in
theorem w_runnable : about1.curStatus? = some .runnable := by decide +kernel
set_option maxRecDepth 65536 in
theorem w_alone : about1.alone = true := by decide +kernel
set_option maxRecDepth 65536 in
theorem w_named : about1.methodNamed? x = some theMethod := by decide +kernel
set_option maxRecDepth 65536 in
theorem w_hears : about1.hears theMethod below0 = true := by decide +kernel
set_option maxRecDepth 65536 in
theorem w_ripe : about1.ripe theMethod args0 below0 = true := by decide +kernel
theorem w_running : about1.status = .running := rfl
set_option maxRecDepth 65536 in
theorem w_room : about1.hasRoom e0.platform room_1 = true :=
  launch0.hasRoom_least _ room_1 (by decide +kernel) (by decide +kernel) (by decide +kernel) (by decide +kernel) (by decide +kernel) (by decide +kernel)
theorem allAtoms_all (ts : List Jvm.Cond) (a : Array Jvm.Value) (st : Jvm.State) : (allAtoms ts).before a st = ts.all (fun c => c.before a st) := by
  induction ts with
  | nil => rfl
  | cons c t ih =>
    show (Jvm.Cond.and c (allAtoms t)).before a st = _
    rw [Jvm.Cond.before_and, ih, List.all_cons]
def words1 : List Jvm.Cond := Jvm.Cond.code x code maxLocals ret :: tables_1
/-- a 'code' word, met by the world's own term for the bytes: nothing is compared byte by byte -/
theorem code_word {y : MethodName} {bytes : ByteArray} {mx : Nat} {rt : Option FieldType} {a : Array Value} {s : State} {m : MethodId} {meth : Method} {c : Code} (h1 : s.methodNamed? y = some m) (h2 : s.vm.method? m = some meth) (h3 : meth.code = some c) (h4 : c.code = bytes)
    (h5 : (c.maxLocals == mx && c.exceptionTable.isEmpty && decide (c.maxStack ≤ mostOperands) && decide (meth.sig.returnType = rt) && !meth.locks && decide (parseMethodDescriptor y.desc = some meth.sig)) = true) : (Jvm.Cond.code y bytes mx rt).before a s = true := by
  simp only [Bool.and_eq_true, beq_iff_eq, Bool.not_eq_true', decide_eq_true_eq] at h5
  obtain ⟨⟨⟨⟨⟨g1, g2⟩, g3⟩, g4⟩, g5⟩, g6⟩ := h5
  simp [Cond.before, Cond.holds, Cond.value, h1, h2, h3, h4, g1, g2, g3, g4, g5, g6]
def isCode : Jvm.Cond → Bool
  | .code _ _ _ _ => true
  | _ => false
theorem all_split {L : List Jvm.Cond} {P : Jvm.Cond → Bool} (h1 : L.all (fun c => isCode c || P c) = true) (h2 : ∀ c ∈ L.filter isCode, P c = true) : L.all P = true := by
  refine List.all_eq_true.mpr fun c hc => ?_
  have h := List.all_eq_true.mp h1 c hc
  rcases Bool.eq_false_or_eq_true (isCode c) with hi | hi
  · exact h2 c (List.mem_filter.mpr ⟨hc, hi⟩)
  · simpa [hi] using h
set_option maxRecDepth 65536 in
theorem w_c0 : (Jvm.Cond.code x code maxLocals ret).before args0 about1 = true := code_word (m := ⟨1, 1⟩) (meth := k1m1) (c := k1c1) (by decide +kernel) rfl rfl rfl (by decide +kernel)
set_option maxRecDepth 65536 in
theorem w_c1 : (Jvm.Cond.code ({ cls := "com/example/tidegraph/tidegraph/graph/ElementList", name := "<init>", desc := "()V" } : Jvm.MethodName) prog_8_method_1_code (1 : Nat) (Option.none : Option Jvm.ClassFile.FieldType)).before args0 about1 = true := code_word (m := ⟨9, 0⟩) (meth := k9m0) (c := k9c0) (by decide +kernel) rfl rfl rfl (by decide +kernel)
set_option maxRecDepth 65536 in
theorem w_c2 : (Jvm.Cond.code ({ cls := "java/util/AbstractList", name := "<init>", desc := "()V" } : Jvm.MethodName) jdk_39_method_1_code (1 : Nat) (Option.none : Option Jvm.ClassFile.FieldType)).before args0 about1 = true := code_word (m := ⟨7, 0⟩) (meth := k7m0) (c := k7c0) (by decide +kernel) rfl rfl rfl (by decide +kernel)
set_option maxRecDepth 65536 in
theorem w_c3 : (Jvm.Cond.code ({ cls := "java/util/AbstractCollection", name := "<init>", desc := "()V" } : Jvm.MethodName) jdk_22_method_1_code (1 : Nat) (Option.none : Option Jvm.ClassFile.FieldType)).before args0 about1 = true := code_word (m := ⟨4, 0⟩) (meth := k4m0) (c := k4c0) (by decide +kernel) rfl rfl rfl (by decide +kernel)
set_option maxRecDepth 65536 in
theorem w_c4 : (Jvm.Cond.code ({ cls := "java/lang/Object", name := "<init>", desc := "()V" } : Jvm.MethodName) object_method_1_code (1 : Nat) (Option.none : Option Jvm.ClassFile.FieldType)).before args0 about1 = true := code_word (m := ⟨0, 0⟩) (meth := k0m0) (c := k0c0) (by decide +kernel) rfl rfl rfl (by decide +kernel)
set_option maxRecDepth 65536 in
theorem w_c5 : (Jvm.Cond.code ({ cls := "java/lang/Integer", name := "valueOf", desc := "(I)Ljava/lang/Integer;" } : Jvm.MethodName) jdk_33_method_22_code (1 : Nat) (Option.some (Jvm.ClassFile.FieldType.object "java/lang/Integer"))).before args0 about1 = true := code_word (m := ⟨15, 0⟩) (meth := k15m0) (c := k15c0) (by decide +kernel) rfl rfl rfl (by decide +kernel)
set_option maxRecDepth 65536 in
theorem w_c6 : (Jvm.Cond.code ({ cls := "com/example/tidegraph/tidegraph/graph/ElementList", name := "append", desc := "(Ljava/lang/Object;)V" } : Jvm.MethodName) prog_8_method_2_code (2 : Nat) (Option.none : Option Jvm.ClassFile.FieldType)).before args0 about1 = true := code_word (m := ⟨9, 1⟩) (meth := k9m1) (c := k9c1) (by decide +kernel) rfl rfl rfl (by decide +kernel)
set_option maxRecDepth 65536 in
theorem w_c7 : (Jvm.Cond.code ({ cls := "java/lang/Math", name := "max", desc := "(II)I" } : Jvm.MethodName) jdk_29_method_65_code (2 : Nat) (Option.some Jvm.ClassFile.FieldType.int)).before args0 about1 = true := code_word (m := ⟨17, 1⟩) (meth := k17m1) (c := k17c1) (by decide +kernel) rfl rfl rfl (by decide +kernel)
set_option maxRecDepth 65536 in
theorem w_c8 : (Jvm.Cond.code ({ cls := "java/util/Arrays", name := "copyOf", desc := "([Ljava/lang/Object;I)[Ljava/lang/Object;" } : Jvm.MethodName) jdk_65_method_119_code (2 : Nat) (Option.some (Jvm.ClassFile.FieldType.array (Jvm.ClassFile.FieldType.object "java/lang/Object")))).before args0 about1 = true := code_word (m := ⟨18, 1⟩) (meth := k18m1) (c := k18c1) (by decide +kernel) rfl rfl rfl (by decide +kernel)
set_option maxRecDepth 65536 in
theorem w_c9 : (Jvm.Cond.code ({ cls := "java/util/Arrays", name := "copyOf", desc := "([Ljava/lang/Object;ILjava/lang/Class;)[Ljava/lang/Object;" } : Jvm.MethodName) jdk_65_method_120_code (4 : Nat) (Option.some (Jvm.ClassFile.FieldType.array (Jvm.ClassFile.FieldType.object "java/lang/Object")))).before args0 about1 = true := code_word (m := ⟨18, 2⟩) (meth := k18m2) (c := k18c2) (by decide +kernel) rfl rfl rfl (by decide +kernel)
set_option maxRecDepth 65536 in
theorem w_c10 : (Jvm.Cond.code ({ cls := "java/lang/Math", name := "min", desc := "(II)I" } : Jvm.MethodName) jdk_29_method_69_code (2 : Nat) (Option.some Jvm.ClassFile.FieldType.int)).before args0 about1 = true := code_word (m := ⟨17, 2⟩) (meth := k17m2) (c := k17c2) (by decide +kernel) rfl rfl rfl (by decide +kernel)
set_option maxRecDepth 65536 in
theorem w_c11 : (Jvm.Cond.code ({ cls := "com/example/tidegraph/tidegraph/graph/ElementListGetPinLaw", name := "expectedAt", desc := "(IIIIIII)I" } : Jvm.MethodName) method_3_code (7 : Nat) (Option.some Jvm.ClassFile.FieldType.int)).before args0 about1 = true := code_word (m := ⟨1, 2⟩) (meth := k1m2) (c := k1c2) (by decide +kernel) rfl rfl rfl (by decide +kernel)
set_option maxRecDepth 65536 in
theorem w_c12 : (Jvm.Cond.code ({ cls := "com/example/tidegraph/tidegraph/graph/ElementList", name := "get", desc := "(I)Ljava/lang/Object;" } : Jvm.MethodName) prog_8_method_3_code (2 : Nat) (Option.some (Jvm.ClassFile.FieldType.object "java/lang/Object"))).before args0 about1 = true := code_word (m := ⟨9, 2⟩) (meth := k9m2) (c := k9c2) (by decide +kernel) rfl rfl rfl (by decide +kernel)
set_option maxRecDepth 65536 in
theorem w_c13 : (Jvm.Cond.code ({ cls := "java/lang/Integer", name := "intValue", desc := "()I" } : Jvm.MethodName) jdk_33_method_27_code (1 : Nat) (Option.some Jvm.ClassFile.FieldType.int)).before args0 about1 = true := code_word (m := ⟨15, 2⟩) (meth := k15m2) (c := k15c2) (by decide +kernel) rfl rfl rfl (by decide +kernel)
set_option maxRecDepth 65536 in
theorem w_c14 : (Jvm.Cond.code ({ cls := "java/lang/Integer", name := "<init>", desc := "(I)V" } : Jvm.MethodName) jdk_33_method_23_code (2 : Nat) (Option.none : Option Jvm.ClassFile.FieldType)).before args0 about1 = true := code_word (m := ⟨15, 1⟩) (meth := k15m1) (c := k15c1) (by decide +kernel) rfl rfl rfl (by decide +kernel)
set_option maxRecDepth 65536 in
theorem w_c15 : (Jvm.Cond.code ({ cls := "java/lang/Number", name := "<init>", desc := "()V" } : Jvm.MethodName) jdk_18_method_1_code (1 : Nat) (Option.none : Option Jvm.ClassFile.FieldType)).before args0 about1 = true := code_word (m := ⟨11, 0⟩) (meth := k11m0) (c := k11c0) (by decide +kernel) rfl rfl rfl (by decide +kernel)
def codes1 : List Jvm.Cond := [Jvm.Cond.code x code maxLocals ret, Jvm.Cond.code ({ cls := "com/example/tidegraph/tidegraph/graph/ElementList", name := "<init>", desc := "()V" } : Jvm.MethodName) prog_8_method_1_code (1 : Nat) (Option.none : Option Jvm.ClassFile.FieldType), Jvm.Cond.code ({ cls := "java/util/AbstractList", name := "<init>", desc := "()V" } : Jvm.MethodName) jdk_39_method_1_code (1 : Nat) (Option.none : Option Jvm.ClassFile.FieldType), Jvm.Cond.code ({ cls := "java/util/AbstractCollection", name := "<init>", desc := "()V" } : Jvm.MethodName) jdk_22_method_1_code (1 : Nat) (Option.none : Option Jvm.ClassFile.FieldType), Jvm.Cond.code ({ cls := "java/lang/Object", name := "<init>", desc := "()V" } : Jvm.MethodName) object_method_1_code (1 : Nat) (Option.none : Option Jvm.ClassFile.FieldType), Jvm.Cond.code ({ cls := "java/lang/Integer", name := "valueOf", desc := "(I)Ljava/lang/Integer;" } : Jvm.MethodName) jdk_33_method_22_code (1 : Nat) (Option.some (Jvm.ClassFile.FieldType.object "java/lang/Integer")), Jvm.Cond.code ({ cls := "com/example/tidegraph/tidegraph/graph/ElementList", name := "append", desc := "(Ljava/lang/Object;)V" } : Jvm.MethodName) prog_8_method_2_code (2 : Nat) (Option.none : Option Jvm.ClassFile.FieldType), Jvm.Cond.code ({ cls := "java/lang/Math", name := "max", desc := "(II)I" } : Jvm.MethodName) jdk_29_method_65_code (2 : Nat) (Option.some Jvm.ClassFile.FieldType.int), Jvm.Cond.code ({ cls := "java/util/Arrays", name := "copyOf", desc := "([Ljava/lang/Object;I)[Ljava/lang/Object;" } : Jvm.MethodName) jdk_65_method_119_code (2 : Nat) (Option.some (Jvm.ClassFile.FieldType.array (Jvm.ClassFile.FieldType.object "java/lang/Object"))), Jvm.Cond.code ({ cls := "java/util/Arrays", name := "copyOf", desc := "([Ljava/lang/Object;ILjava/lang/Class;)[Ljava/lang/Object;" } : Jvm.MethodName) jdk_65_method_120_code (4 : Nat) (Option.some (Jvm.ClassFile.FieldType.array (Jvm.ClassFile.FieldType.object "java/lang/Object"))), Jvm.Cond.code ({ cls := "java/lang/Math", name := "min", desc := "(II)I" } : Jvm.MethodName) jdk_29_method_69_code (2 : Nat) (Option.some Jvm.ClassFile.FieldType.int), Jvm.Cond.code ({ cls := "com/example/tidegraph/tidegraph/graph/ElementListGetPinLaw", name := "expectedAt", desc := "(IIIIIII)I" } : Jvm.MethodName) method_3_code (7 : Nat) (Option.some Jvm.ClassFile.FieldType.int), Jvm.Cond.code ({ cls := "com/example/tidegraph/tidegraph/graph/ElementList", name := "get", desc := "(I)Ljava/lang/Object;" } : Jvm.MethodName) prog_8_method_3_code (2 : Nat) (Option.some (Jvm.ClassFile.FieldType.object "java/lang/Object")), Jvm.Cond.code ({ cls := "java/lang/Integer", name := "intValue", desc := "()I" } : Jvm.MethodName) jdk_33_method_27_code (1 : Nat) (Option.some Jvm.ClassFile.FieldType.int), Jvm.Cond.code ({ cls := "java/lang/Integer", name := "<init>", desc := "(I)V" } : Jvm.MethodName) jdk_33_method_23_code (2 : Nat) (Option.none : Option Jvm.ClassFile.FieldType), Jvm.Cond.code ({ cls := "java/lang/Number", name := "<init>", desc := "()V" } : Jvm.MethodName) jdk_18_method_1_code (1 : Nat) (Option.none : Option Jvm.ClassFile.FieldType)]
set_option maxRecDepth 65536 in
theorem codes_eq : words1.filter isCode = codes1 := rfl
theorem w_codes : ∀ c ∈ words1.filter isCode, c.before args0 about1 = true := by
  rw [codes_eq]
  intro c hc
  simp only [codes1, List.mem_cons, List.not_mem_nil, or_false] at hc
  rcases hc with rfl | rfl | rfl | rfl | rfl | rfl | rfl | rfl | rfl | rfl | rfl | rfl | rfl | rfl | rfl | rfl
  · exact w_c0
  · exact w_c1
  · exact w_c2
  · exact w_c3
  · exact w_c4
  · exact w_c5
  · exact w_c6
  · exact w_c7
  · exact w_c8
  · exact w_c9
  · exact w_c10
  · exact w_c11
  · exact w_c12
  · exact w_c13
  · exact w_c14
  · exact w_c15
set_option maxRecDepth 65536 in
theorem w_t1 : (words1.take 24).all (fun c => isCode c || c.before args0 about1) = true := by decide +kernel
set_option maxRecDepth 65536 in
theorem w_t2 : ((words1.drop 24).take 24).all (fun c => isCode c || c.before args0 about1) = true := by decide +kernel
set_option maxRecDepth 65536 in
theorem w_t3 : (((words1.drop 24).drop 24).take 24).all (fun c => isCode c || c.before args0 about1) = true := by decide +kernel
set_option maxRecDepth 65536 in
theorem w_t4 : ((((words1.drop 24).drop 24).drop 24).take 24).all (fun c => isCode c || c.before args0 about1) = true := by decide +kernel
set_option maxRecDepth 65536 in
theorem w_t5 : ((((words1.drop 24).drop 24).drop 24).drop 24).all (fun c => isCode c || c.before args0 about1) = true := by decide +kernel
theorem w_tables : (allAtoms (Jvm.Cond.code x code maxLocals ret :: tables_1)).before args0 about1 = true := by
  rw [allAtoms_all]
  show words1.all (fun c => c.before args0 about1) = true
  refine all_split ?_ w_codes
  rw [← List.take_append_drop 24 words1, List.all_append, w_t1, ← List.take_append_drop 24 (words1.drop 24), List.all_append, w_t2, ← List.take_append_drop 24 ((words1.drop 24).drop 24), List.all_append, w_t3, ← List.take_append_drop 24 (((words1.drop 24).drop 24).drop 24), List.all_append, w_t4, w_t5]
  rfl
set_option maxRecDepth 65536 in
theorem w_rest : rest_1_c.before args0 about1 = true := by decide +kernel
set_option maxRecDepth 65536 in
theorem w_case : (Jvm.Cond.and given_1 narrow_1).before args0 about1 = true := by decide +kernel
theorem w_applies : (headSpec (Jvm.Cond.code x code maxLocals ret :: tables_1) room_1).applies x e0.platform about1 = true :=
  (Spec.applies_iff w_frames).mpr ⟨w_running, w_runnable, w_alone, w_named, w_hears, w_ripe, w_room, w_tables⟩
set_option maxRecDepth 65536 in
theorem atStart : AtStart classFile x code maxLocals ret World_1 tables_1 room_1 Calls_1 rest_1 Pre_1 launch0 p0 e0 about1 theMethod args0 below0 :=
  ⟨lists_1, trivial, launch0.admits_env _ _ _, launch0.least_env, fairChoices_fair.cas, fairChoices_fair.clock, w_frames, w_args, w_heap, w_applies, ⟨⟨27, k27, 2, by decide +kernel, rfl, rfl, _, rfl, rfl⟩, trivial⟩, w_rest, w_case⟩
end start1
theorem witness_1 : WitnessClaimed_1 := ⟨start1.p0, start1.e0, start1.about1, start1.theMethod, start1.args0, start1.below0, start1.atStart⟩
end Jvm.Pilot.@@N@@
