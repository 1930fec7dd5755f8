import JvmDerived
import JvmDerived.Pilot.@@N@@Statement
import JvmDerived.Pilot.@@N@@Code
set_option linter.unusedVariables false
set_option linter.unusedSimpArgs false
namespace Jvm.Pilot.@@N@@
open Jvm Jvm.ClassFile Sem Op Lib Jvm.Free Jvm.Stand Jvm.LawKit Jvm.RoadKit Bundle Jvm.Pilot.@@N@@.Jvm.D
def Go (p : Program) (e : Env) (below : List Frame) (s : State) (Q : Option Value → Heap → List Loc → Prop) (rc rs : Nat) (S : State) : Prop :=
  ∃ s₂ o, Steps p.tables e below S s₂ ∧ s₂.status = .running ∧ Ended s₂ below o ∧ ∃ v L, o = .returned v ∧ Q v s₂.heap L ∧ FrameEnd s o s₂ L rc rs
section OwnGo
variable {p : Program} {l : Launch} {e : Env} {R : Room} {s : State} {m : MethodId} {args : Array Value} {below : List Frame} {meth : Method} {c : Code} {T : State} {locs : List Loc} {cells slots : Nat} {Q : Option Value → Heap → List Loc → Prop} {rc rs : Nat}
theorem Go.via {S S' : State} (h : ∀ t, Steps p.tables e below S' t → Steps p.tables e below S t) (g : Go p e below s Q rc rs S') : Go p e below s Q rc rs S :=
  let ⟨s₂, o, a, b⟩ := g; ⟨s₂, o, h _ a, b⟩
theorem Go.retI (X : Stand p l e R s m args below meth c T locs cells slots) (hx : p.tables.exec = Jvm.exec) (hlk : meth.locks = false) {pc : Nat} {Ls : Array Slot} {z : Int32} {rest : List Value} (hret : meth.sig.returnType = some .int) (hd : decode c.code pc = .ok (.ireturn, 1))
    (hq : Q (some (.int z)) T.heap locs) (hc : cells ≤ rc) (hs : slots ≤ rs) : Go p e below s Q rc rs (T.setTop (mkF m pc Ls (.int z :: rest))) := by
  obtain ⟨fs, hr, hrun, hended, hW, hsame⟩ := X.leave (v := some (.int z)) (fun h => by rw [hret] at h; cases h)
  exact ⟨_, _, retOut X hx hret rfl (Or.inl ⟨rfl, Or.inl rfl, _, rfl⟩) hd hr, hrun, hended, _, _, rfl, hq, ⟨_, rfl⟩, hW, hsame.mono hc hs⟩
theorem Go.retB (X : Stand p l e R s m args below meth c T locs cells slots) (hx : p.tables.exec = Jvm.exec) (hlk : meth.locks = false) {pc : Nat} {Ls : Array Slot} {z : Int32} {rest : List Value} (hret : meth.sig.returnType = some .boolean) (hd : decode c.code pc = .ok (.ireturn, 1)) (hz : narrow .boolean (.int z) = .int z)
    (hq : Q (some (.int z)) T.heap locs) (hc : cells ≤ rc) (hs : slots ≤ rs) : Go p e below s Q rc rs (T.setTop (mkF m pc Ls (.int z :: rest))) := by
  obtain ⟨fs, hr, hrun, hended, hW, hsame⟩ := X.leave (v := some (.int z)) (fun h => by rw [hret] at h; cases h)
  exact ⟨_, _, retOut X hx hret hz (Or.inl ⟨rfl, Or.inr (Or.inl rfl), _, rfl⟩) hd hr, hrun, hended, _, _, rfl, hq, ⟨_, rfl⟩, hW, hsame.mono hc hs⟩
theorem Go.retC (X : Stand p l e R s m args below meth c T locs cells slots) (hx : p.tables.exec = Jvm.exec) (hlk : meth.locks = false) {pc : Nat} {Ls : Array Slot} {z : Int32} {rest : List Value} (hret : meth.sig.returnType = some .char) (hd : decode c.code pc = .ok (.ireturn, 1)) (hz : narrow .char (.int z) = .int z)
    (hq : Q (some (.int z)) T.heap locs) (hc : cells ≤ rc) (hs : slots ≤ rs) : Go p e below s Q rc rs (T.setTop (mkF m pc Ls (.int z :: rest))) := by
  obtain ⟨fs, hr, hrun, hended, hW, hsame⟩ := X.leave (v := some (.int z)) (fun h => by rw [hret] at h; cases h)
  exact ⟨_, _, retOut X hx hret hz (Or.inl ⟨rfl, Or.inr (Or.inr (Or.inr (Or.inl rfl))), _, rfl⟩) hd hr, hrun, hended, _, _, rfl, hq, ⟨_, rfl⟩, hW, hsame.mono hc hs⟩
theorem Go.retJ (X : Stand p l e R s m args below meth c T locs cells slots) (hx : p.tables.exec = Jvm.exec) (hlk : meth.locks = false) {pc : Nat} {Ls : Array Slot} {z : Int64} {rest : List Value} (hret : meth.sig.returnType = some .long) (hd : decode c.code pc = .ok (.lreturn, 1))
    (hq : Q (some (.long z)) T.heap locs) (hc : cells ≤ rc) (hs : slots ≤ rs) : Go p e below s Q rc rs (T.setTop (mkF m pc Ls (.long z :: rest))) := by
  obtain ⟨fs, hr, hrun, hended, hW, hsame⟩ := X.leave (v := some (.long z)) (fun h => by rw [hret] at h; cases h)
  exact ⟨_, _, retOut X hx hret rfl (Or.inr (Or.inl ⟨rfl, rfl, _, rfl⟩)) hd hr, hrun, hended, _, _, rfl, hq, ⟨_, rfl⟩, hW, hsame.mono hc hs⟩
theorem Go.retA (X : Stand p l e R s m args below meth c T locs cells slots) (hx : p.tables.exec = Jvm.exec) (hlk : meth.locks = false) {pc : Nat} {Ls : Array Slot} {z : Value} {rest : List Value} {t : FieldType} (hret : meth.sig.returnType = some t) (ht : t.isReference = true) (hz : z.isRef = true) (hn : narrow t z = z) (hd : decode c.code pc = .ok (.areturn, 1))
    (hq : Q (some z) T.heap locs) (hc : cells ≤ rc) (hs : slots ≤ rs) : Go p e below s Q rc rs (T.setTop (mkF m pc Ls (z :: rest))) := by
  obtain ⟨fs, hr, hrun, hended, hW, hsame⟩ := X.leave (v := some z) (fun h => by rw [hret] at h; cases h)
  exact ⟨_, _, retOut X hx hret hn (Or.inr (Or.inr (Or.inr (Or.inr ⟨rfl, ht, hz⟩)))) hd hr, hrun, hended, _, _, rfl, hq, ⟨_, rfl⟩, hW, hsame.mono hc hs⟩
theorem Go.retV (X : Stand p l e R s m args below meth c T locs cells slots) (hx : p.tables.exec = Jvm.exec) (hlk : meth.locks = false) {pc : Nat} {Ls : Array Slot} (hret : meth.sig.returnType = none) (hd : decode c.code pc = .ok (.return_, 1))
    (hq : Q none T.heap locs) (hc : cells ≤ rc) (hs : slots ≤ rs) : Go p e below s Q rc rs (T.setTop (mkF m pc Ls [])) := by
  obtain ⟨fs, hr, hrun, hended, hW, hsame⟩ := X.leave (v := none) (fun _ => rfl)
  exact ⟨_, _, X.returnOut hx hret hd hr, hrun, hended, _, _, rfl, hq, ⟨_, rfl⟩, hW, hsame.mono hc hs⟩
def GoW (p : Program) (e : Env) (below : List Frame) (s : State) (Q : Option Value → Heap → List Loc → Prop) (rc rs : Nat) (S : State) : Prop :=
  ∃ s₂ o, Steps p.tables e below S s₂ ∧ s₂.status = .running ∧ Ended s₂ below o ∧ ∃ v L, o = .returned v ∧ Q v s₂.heap L ∧ ReturnedEndW s o s₂ L rc rs
theorem GoW.via {S S' : State} (h : ∀ t, Steps p.tables e below S' t → Steps p.tables e below S t) (g : GoW p e below s Q rc rs S') : GoW p e below s Q rc rs S :=
  let ⟨s₂, o, a, b⟩ := g; ⟨s₂, o, h _ a, b⟩
theorem GoW.retB {vm₁ : Vm} (X : Stand p l e R (s.setVm vm₁) m args below meth c T locs cells slots) (hx : p.tables.exec = Jvm.exec) (hlk : meth.locks = false) {n : Nat} (hS : s.Since vm₁ n) (hn : n ≤ T.heap.size) {pc : Nat} {Ls : Array Slot} {z : Int32} {rest : List Value} (hret : meth.sig.returnType = some .boolean) (hd : decode c.code pc = .ok (.ireturn, 1)) (hz : narrow .boolean (.int z) = .int z)
    (hq : Q (some (.int z)) T.heap locs) (hc : cells ≤ rc) (hs : slots ≤ rs) : GoW p e below s Q rc rs (T.setTop (mkF m pc Ls (.int z :: rest))) := by
  obtain ⟨fs, hr, hrun, hended, hE⟩ := X.leaveW hS hn (v := some (.int z)) (fun h => by rw [hret] at h; cases h)
  exact ⟨_, _, retOut X hx hret hz (Or.inl ⟨rfl, Or.inr (Or.inl rfl), _, rfl⟩) hd hr, hrun, hended, _, _, rfl, hq, hE.1, hE.2.1, hE.2.2.1, hE.2.2.2.mono hc hs⟩
end OwnGo
theorem own_lc1 {x y : Int64} (h : x < y) : lcmpW x y < 0 := (lw_lt x y).mpr h
theorem own_lc2 {x y : Int64} (h : ¬ x < y) : ¬ lcmpW x y < 0 := fun q => h ((lw_lt x y).mp q)
theorem own_lc3 {x y : Int64} (h : y < x) : 0 < lcmpW x y := (lw_gt x y).mpr h
theorem own_lc4 {x y : Int64} (h : ¬ y < x) : ¬ 0 < lcmpW x y := fun q => h ((lw_gt x y).mp q)
theorem own_lc5 {x y : Int64} (h : x = y) : lcmpW x y = 0 := (lw_eq x y).mpr h
theorem own_lc6 {x y : Int64} (h : ¬ x = y) : ¬ lcmpW x y = 0 := fun q => h ((lw_eq x y).mp q)
def own_R (p : Int32) : Prop := (1 ≤ p.toInt ∧ p.toInt ≤ 6) ∨ p.toInt = 10 ∨ (16 ≤ p.toInt ∧ p.toInt ≤ 23)
theorem d1_0 : decode prog_34_method_14_code 0 = .ok (.iload_n 0, 1) := by decide +kernel
theorem d1_1 : decode prog_34_method_14_code 1 = .ok (.tableswitch 111 1 23 #[107, 107, 107, 107, 107, 107, 111, 111, 111, 107, 111, 111, 111, 111, 111, 107, 107, 107, 107, 107, 107, 107, 107], 107) := by decide +kernel
theorem d1_112 : decode prog_34_method_14_code 112 = .ok (.iconst 0, 1) := by decide +kernel
theorem d1_113 : decode prog_34_method_14_code 113 = .ok (.ireturn, 1) := by decide +kernel
theorem d1_108 : decode prog_34_method_14_code 108 = .ok (.iconst 1, 1) := by decide +kernel
theorem d1_109 : decode prog_34_method_14_code 109 = .ok (.goto 4, 3) := by decide +kernel
theorem pn_0 : plainName "com/example/assayline/assayline/Frame" = true := by first | (simp [plainName, overriddenIn]; done) | decide +kernel
theorem ef_1 (m : MethodId) (x0 : Int32) : entryFrame m #[(.int x0)] 1 = mkF m 0 #[.val (.int x0)] [] := by first | (simp [entryFrame, mkF, argsToLocals, Value.category]; done) | rfl
def Q1 (Z : State) (p1 : Int32) (h0 : Heap) (n0 : Nat) (v : Option Value) (h : Heap) (L : List Loc) : Prop := ∃ r : Int32, v = some (.int r) ∧ Fr n0 L ∧ h = h0 ∧ ((r = 1 ∧ own_R p1) ∨ (r = 0 ∧ ¬ own_R p1))
set_option maxRecDepth 65536 in
set_option maxHeartbeats 40000000 in
theorem rm1 (l : Launch) (Z : State) (a0 : Array Value) (hw : ∀ d ∈ tables_1, d.before a0 Z = true) (ws : List Jvm.Cond) (p1 : Int32) (h0 : Heap) (n0 : Nat) (Z0 : n0 ≤ h0.size) :
    MetFree l (⟨"com/example/assayline/assayline/Frame", "restricted", "(I)Z"⟩ : MethodName) (head1 (Jvm.Cond.code (⟨"com/example/assayline/assayline/Frame", "restricted", "(I)Z"⟩ : MethodName) prog_34_method_14_code 1 (some .boolean) :: ws) ({ frames := 0, cells := 0, slots := 0, locals := 0 } : Room)) (fun a U => a = #[(.int p1)] ∧ Z.Warmed39 U.vm ∧ U.heap = h0) (fun _ _ _ _ _ => True) (fun _ U o U' => ∃ v L, o = .returned v ∧ Q1 Z p1 h0 n0 v U'.heap L ∧ FrameEnd U o U' L ({ frames := 0, cells := 0, slots := 0, locals := 0 } : Room).cells ({ frames := 0, cells := 0, slots := 0, locals := 0 } : Room).slots) := by
  refine MetFree.of_bodySF (plainFor_of_name pn_0) hisR ?_
  intro p e s m args below meth c s₁ Bd hml0 hP hK
  obtain ⟨rfl, hZ, hh⟩ := hP
  have hx := Bd.exec
  have hby := Bd.bytes
  have hml : c.maxLocals = 1 := hml0
  have hown : s.vm.findClass "com/example/assayline/assayline/Frame" = some m.cls := findClass_of_methodNamed Bd.named
  have hnm := (name_of_methodNamed Bd.named Bd.method).1
  have X0 : Stand p l e ({ frames := 0, cells := 0, slots := 0, locals := 0 } : Room) s m #[(.int p1)] below meth c s₁ [] 0 0 := Stand.of_body Bd
  have e0 : s₁.heap = h0 := by rw [← hh, Bd.state]; rfl
  have N0 := Fr.nil n0
  show Go p e below s (Q1 Z p1 h0 n0) ({ frames := 0, cells := 0, slots := 0, locals := 0 } : Room).cells ({ frames := 0, cells := 0, slots := 0, locals := 0 } : Room).slots _
  refine Go.via (S' := s₁.setTop (mkF m 0 #[.val (.int p1)] [])) (fun t k => castTop (ef_1 m p1) k) ?_
  refine Go.via (S' := s₁.setTop (mkF m 1 #[.val (.int p1)] [(.int p1)])) (fun _ k => XS.iloadN X0.here hx rfl (hb hby d1_0) rfl k) ?_
  rcases Decidable.em (p1.toInt < 1 ∨ p1.toInt > 23) with hsw | hsw
  · refine Go.via (S' := s₁.setTop (mkF m 112 #[.val (.int p1)] [])) (fun _ k => XS.tswOut X0.here hx rfl (pc0 := 1) (pc' := 112) rfl (hb hby d1_1) rfl hsw (by decide) (by decide) k) ?_
    refine Go.via (S' := s₁.setTop (mkF m 113 #[.val (.int p1)] [(.int (0 : Int32))])) (fun _ k => XS.iconst X0.here hx rfl (hb hby d1_112) k) ?_
    exact Go.retB X0 hx (BodyLoose.notSynchronized Bd) Bd.returns (hb hby d1_113) rfl (by rw [e0]; exact ⟨_, rfl, N0, rfl, Or.inr ⟨rfl, (by unfold own_R; omega)⟩⟩) (by decide) (by decide)
  · have h23 : p1.toInt = 1 ∨ p1.toInt = 2 ∨ p1.toInt = 3 ∨ p1.toInt = 4 ∨ p1.toInt = 5 ∨ p1.toInt = 6 ∨ p1.toInt = 7 ∨ p1.toInt = 8 ∨ p1.toInt = 9 ∨ p1.toInt = 10 ∨ p1.toInt = 11 ∨ p1.toInt = 12 ∨ p1.toInt = 13 ∨ p1.toInt = 14 ∨ p1.toInt = 15 ∨ p1.toInt = 16 ∨ p1.toInt = 17 ∨ p1.toInt = 18 ∨ p1.toInt = 19 ∨ p1.toInt = 20 ∨ p1.toInt = 21 ∨ p1.toInt = 22 ∨ p1.toInt = 23 := by omega
    have hT : ((#[107, 107, 107, 107, 107, 107, 111, 111, 111, 107, 111, 111, 111, 111, 111, 107, 107, 107, 107, 107, 107, 107, 107] : Array Int)[(p1.toInt - 1).toNat]? = some 107 ∧ own_R p1) ∨ ((#[107, 107, 107, 107, 107, 107, 111, 111, 111, 107, 111, 111, 111, 111, 111, 107, 107, 107, 107, 107, 107, 107, 107] : Array Int)[(p1.toInt - 1).toNat]? = some 111 ∧ ¬ own_R p1) := by
      unfold own_R
      rcases h23 with h | h | h | h | h | h | h | h | h | h | h | h | h | h | h | h | h | h | h | h | h | h | h <;> rw [h] <;> first | exact Or.inl ⟨rfl, by omega⟩ | exact Or.inr ⟨rfl, by omega⟩
    rcases hT with ⟨hT1, hT2⟩ | ⟨hT1, hT2⟩
    · refine Go.via (S' := s₁.setTop (mkF m 108 #[.val (.int p1)] [])) (fun _ k => XS.tswIn X0.here hx rfl (pc0 := 1) (pc' := 108) rfl (hb hby d1_1) rfl hsw hT1 (by decide) (by decide) k) ?_
      refine Go.via (S' := s₁.setTop (mkF m 109 #[.val (.int p1)] [(.int (1 : Int32))])) (fun _ k => XS.iconst X0.here hx rfl (hb hby d1_108) k) ?_
      refine Go.via (S' := s₁.setTop (mkF m 113 #[.val (.int p1)] [(.int (1 : Int32))])) (fun _ k => XS.goto X0.here hx rfl (pc0 := 109) (pc' := 113) rfl (hb hby d1_109) (by decide) (by decide) k) ?_
      exact Go.retB X0 hx (BodyLoose.notSynchronized Bd) Bd.returns (hb hby d1_113) rfl (by rw [e0]; exact ⟨_, rfl, N0, rfl, Or.inl ⟨rfl, hT2⟩⟩) (by decide) (by decide)
    · refine Go.via (S' := s₁.setTop (mkF m 112 #[.val (.int p1)] [])) (fun _ k => XS.tswIn X0.here hx rfl (pc0 := 1) (pc' := 112) rfl (hb hby d1_1) rfl hsw hT1 (by decide) (by decide) k) ?_
      refine Go.via (S' := s₁.setTop (mkF m 113 #[.val (.int p1)] [(.int (0 : Int32))])) (fun _ k => XS.iconst X0.here hx rfl (hb hby d1_112) k) ?_
      exact Go.retB X0 hx (BodyLoose.notSynchronized Bd) Bd.returns (hb hby d1_113) rfl (by rw [e0]; exact ⟨_, rfl, N0, rfl, Or.inr ⟨rfl, hT2⟩⟩) (by decide) (by decide)
theorem pd_0 : parseMethodDescriptor "(I)Z" = some ⟨[.int], some .boolean⟩ := by decide +kernel
theorem pn_1 : plainName "com/example/assayline/assayline/FrameRestrictedPinLaw" = true := by first | (simp [plainName, overriddenIn]; done) | decide +kernel
theorem ef_0 (m : MethodId) (x0 : Int32) : entryFrame m #[(.int x0)] maxLocals = mkF m 0 #[.val (.int x0), .unset, .unset] [] := by first | (simp [entryFrame, mkF, argsToLocals, Value.category, maxLocals]; done) | rfl
def Q0 (Z : State) (p1 : Int32) (h0 : Heap) (n0 : Nat) (v : Option Value) (h : Heap) (L : List Loc) : Prop := v = some (.int 1) ∧ Fr n0 L
set_option maxRecDepth 65536 in
set_option maxHeartbeats 40000000 in
theorem rm0 (l : Launch) (Z : State) (a0 : Array Value) (hw : ∀ d ∈ tables_1, d.before a0 Z = true) (ws : List Jvm.Cond) (p1 : Int32) (h0 : Heap) (n0 : Nat) (Z0 : n0 ≤ h0.size) :
    MetFree l x (head1 (Jvm.Cond.code x code maxLocals ret :: ws) room_1) (fun a U => a = #[(.int p1)] ∧ Z.Warmed39 U.vm ∧ U.heap = h0) (fun _ _ _ _ _ => True) (fun _ U o U' => ∃ v L, o = .returned v ∧ Q0 Z p1 h0 n0 v U'.heap L ∧ FrameEnd U o U' L room_1.cells room_1.slots) := by
  refine MetFree.of_bodySF (plainFor_of_name pn_1) hisR ?_
  intro p e s m args below meth c s₁ Bd hml0 hP hK
  obtain ⟨rfl, hZ, hh⟩ := hP
  have hx := Bd.exec
  have hby := Bd.bytes
  have hml : c.maxLocals = 3 := hml0
  have hown : s.vm.findClass "com/example/assayline/assayline/FrameRestrictedPinLaw" = some m.cls := findClass_of_methodNamed Bd.named
  have hnm := (name_of_methodNamed Bd.named Bd.method).1
  have X0 : Stand p l e room_1 s m #[(.int p1)] below meth c s₁ [] 0 0 := Stand.of_body Bd
  have e0 : s₁.heap = h0 := by rw [← hh, Bd.state]; rfl
  have N0 := Fr.nil n0
  show Go p e below s (Q0 Z p1 h0 n0) room_1.cells room_1.slots _
  refine Go.via (S' := s₁.setTop (mkF m 0 #[.val (.int p1), .unset, .unset] [])) (fun t k => castTop (ef_0 m p1) k) ?_
  refine Go.via (S' := s₁.setTop (mkF m 1 #[.val (.int p1), .unset, .unset] [(.int p1)])) (fun _ k => XS.iloadN X0.here hx rfl (hb hby at_0) rfl k) ?_
  refine Go.via (S' := s₁.setTop (mkF m 4 #[.val (.int p1), .unset, .unset] [(.int (255 : Int32)), (.int p1)])) (fun _ k => XS.sipush X0.here hx rfl (hb hby at_1) k) ?_
  refine Go.via (S' := s₁.setTop (mkF m 5 #[.val (.int p1), .unset, .unset] [(.int (p1 &&& (255 : Int32)))])) (fun _ k => XS.iand X0.here hx rfl (hb hby at_4) rfl k) ?_
  refine Go.via (S' := s₁.setTop (mkF m 6 #[.val (.int p1), .val (.int (p1 &&& (255 : Int32))), .unset] [])) (fun _ k => XS.istoreN X0.here hx rfl (hb hby at_5) rfl (l' := #[.val (.int p1), .val (.int (p1 &&& (255 : Int32))), .unset]) rfl k) ?_
  refine Go.via (S' := s₁.setTop (mkF m 7 #[.val (.int p1), .val (.int (p1 &&& (255 : Int32))), .unset] [(.int (p1 &&& (255 : Int32)))])) (fun _ k => XS.iloadN X0.here hx rfl (hb hby at_6) rfl k) ?_
  refine Go.via (S' := s₁.setTop (mkF m 8 #[.val (.int p1), .val (.int (p1 &&& (255 : Int32))), .unset] [(.int (1 : Int32)), (.int (p1 &&& (255 : Int32)))])) (fun _ k => XS.iconst X0.here hx rfl (hb hby at_7) k) ?_
  rcases Decidable.em ((p1 &&& (255 : Int32)) < (1 : Int32)) with hc8 | hc8
  · refine Go.via (S' := s₁.setTop (mkF m 17 #[.val (.int p1), .val (.int (p1 &&& (255 : Int32))), .unset] [])) (fun _ k => XS.icmpYes X0.here hx rfl (pc0 := 8) (pc' := 17) rfl (hb hby at_8) rfl (tlt hc8).1 (by decide) (by decide) k) ?_
    refine Go.via (S' := s₁.setTop (mkF m 18 #[.val (.int p1), .val (.int (p1 &&& (255 : Int32))), .unset] [(.int (p1 &&& (255 : Int32)))])) (fun _ k => XS.iloadN X0.here hx rfl (hb hby at_17) rfl k) ?_
    refine Go.via (S' := s₁.setTop (mkF m 20 #[.val (.int p1), .val (.int (p1 &&& (255 : Int32))), .unset] [(.int (10 : Int32)), (.int (p1 &&& (255 : Int32)))])) (fun _ k => XS.bipush X0.here hx rfl (hb hby at_18) k) ?_
    rcases Decidable.em ((p1 &&& (255 : Int32)) = (10 : Int32)) with hc20 | hc20
    · refine Go.via (S' := s₁.setTop (mkF m 35 #[.val (.int p1), .val (.int (p1 &&& (255 : Int32))), .unset] [])) (fun _ k => XS.icmpYes X0.here hx rfl (pc0 := 20) (pc' := 35) rfl (hb hby at_20) rfl (teq hc20).1 (by decide) (by decide) k) ?_
      refine Go.via (S' := s₁.setTop (mkF m 36 #[.val (.int p1), .val (.int (p1 &&& (255 : Int32))), .unset] [(.int (1 : Int32))])) (fun _ k => XS.iconst X0.here hx rfl (hb hby at_35) k) ?_
      refine Go.via (S' := s₁.setTop (mkF m 40 #[.val (.int p1), .val (.int (p1 &&& (255 : Int32))), .unset] [(.int (1 : Int32))])) (fun _ k => XS.goto X0.here hx rfl (pc0 := 36) (pc' := 40) rfl (hb hby at_36) (by decide) (by decide) k) ?_
      refine Go.via (S' := s₁.setTop (mkF m 41 #[.val (.int p1), .val (.int (p1 &&& (255 : Int32))), .val (.int (1 : Int32))] [])) (fun _ k => XS.istoreN X0.here hx rfl (hb hby at_40) rfl (l' := #[.val (.int p1), .val (.int (p1 &&& (255 : Int32))), .val (.int (1 : Int32))]) rfl k) ?_
      refine Go.via (S' := s₁.setTop (mkF m 42 #[.val (.int p1), .val (.int (p1 &&& (255 : Int32))), .val (.int (1 : Int32))] [(.int (p1 &&& (255 : Int32)))])) (fun _ k => XS.iloadN X0.here hx rfl (hb hby at_41) rfl k) ?_
      obtain ⟨_, _, ⟨T1, L1, k1, n1⟩, -, X1, ⟨Lc1, hQ1, l1, y1, z1⟩, st1⟩ := Jvm.LawKit.callS X0 hx (y := (⟨"com/example/assayline/assayline/Frame", "restricted", "(I)Z"⟩ : MethodName)) hown (mvT hZ (hw _ (List.mem_of_getElem? (i := 0) rfl))) (mvT hZ (hw _ (List.mem_of_getElem? (i := 1) rfl))) (mvT hZ (hw _ (List.mem_of_getElem? (i := 2) rfl))) (mvT hZ (hw _ (List.mem_of_getElem? (i := 3) rfl))) (by decide) (backOf (W := 0) (rm1 l Z a0 hw [] (p1 &&& (255 : Int32)) h0 n0 Z0) hZ (hw _ (List.mem_of_getElem? (i := 3) rfl)) (hw _ (List.mem_of_getElem? (i := 2) rfl)) (by decide) (by decide)) (g := (mkF m 42 #[.val (.int p1), .val (.int (p1 &&& (255 : Int32))), .val (.int (1 : Int32))] [(.int (p1 &&& (255 : Int32)))])) rfl (by rw [hml]; rfl) (argsL := [(.int (p1 &&& (255 : Int32)))]) (rest := []) (lenOf pd_0 rfl) rfl (by show 2 * 0 + _ ≤ _; exact Nat.le_of_eq rfl) (hb hby at_42) (fun _ _ => ⟨rfl, e0, (by decide : 0 + 0 ≤ _), (by decide : 0 + 0 ≤ _)⟩)
      dsimp only [Pt.U, Pt.locs, Pt.cells, Pt.slots] at X1 l1 y1 z1 st1 hQ1
      subst l1 y1 z1
      obtain ⟨r1, rfl, N1q, e1, hr1⟩ := hQ1
      have N2 := Fr.app N0 N1q
      refine Go.via (S' := T1.setTop (mkF m 45 #[.val (.int p1), .val (.int (p1 &&& (255 : Int32))), .val (.int (1 : Int32))] [(.int r1)])) (fun _ k => st1 _ k) ?_
      rcases hr1 with ⟨rfl, hR⟩ | ⟨rfl, hR⟩
      · refine Go.via (S' := T1.setTop (mkF m 46 #[.val (.int p1), .val (.int (p1 &&& (255 : Int32))), .val (.int (1 : Int32))] [(.int (1 : Int32)), (.int (1 : Int32))])) (fun _ k => XS.iloadN X1.here hx rfl (hb hby at_45) rfl k) ?_
        refine Go.via (S' := T1.setTop (mkF m 49 #[.val (.int p1), .val (.int (p1 &&& (255 : Int32))), .val (.int (1 : Int32))] [])) (fun _ k => XS.icmpNo X1.here hx rfl (hb hby at_46) rfl (teq (by decide)).2 k) ?_
        refine Go.via (S' := T1.setTop (mkF m 50 #[.val (.int p1), .val (.int (p1 &&& (255 : Int32))), .val (.int (1 : Int32))] [(.int (1 : Int32))])) (fun _ k => XS.iconst X1.here hx rfl (hb hby at_49) k) ?_
        refine Go.via (S' := T1.setTop (mkF m 54 #[.val (.int p1), .val (.int (p1 &&& (255 : Int32))), .val (.int (1 : Int32))] [(.int (1 : Int32))])) (fun _ k => XS.goto X1.here hx rfl (pc0 := 50) (pc' := 54) rfl (hb hby at_50) (by decide) (by decide) k) ?_
        exact Go.retB X1 hx (BodyLoose.notSynchronized Bd) Bd.returns (hb hby at_54) rfl (by rw [e1]; exact ⟨rfl, N2⟩) (by decide) (by decide)
      · refine Go.via (S' := T1.setTop (mkF m 46 #[.val (.int p1), .val (.int (p1 &&& (255 : Int32))), .val (.int (1 : Int32))] [(.int (1 : Int32)), (.int (0 : Int32))])) (fun _ k => XS.iloadN X1.here hx rfl (hb hby at_45) rfl k) ?_
        refine Go.via (S' := T1.setTop (mkF m 53 #[.val (.int p1), .val (.int (p1 &&& (255 : Int32))), .val (.int (1 : Int32))] [])) (fun _ k => XS.icmpYes X1.here hx rfl (pc0 := 46) (pc' := 53) rfl (hb hby at_46) rfl (feq (by decide)).2 (by decide) (by decide) k) ?_
        exfalso
        have hm := c_mask p1 255 8 (by decide) (by decide)
        unfold own_R at hR
        simp only [Int32.lt_iff_toInt_lt, ← Int32.toInt_inj, Int32.reduceToInt] at hc8 hc20
        omega
    · refine Go.via (S' := s₁.setTop (mkF m 23 #[.val (.int p1), .val (.int (p1 &&& (255 : Int32))), .unset] [])) (fun _ k => XS.icmpNo X0.here hx rfl (hb hby at_20) rfl (feq hc20).1 k) ?_
      refine Go.via (S' := s₁.setTop (mkF m 24 #[.val (.int p1), .val (.int (p1 &&& (255 : Int32))), .unset] [(.int (p1 &&& (255 : Int32)))])) (fun _ k => XS.iloadN X0.here hx rfl (hb hby at_23) rfl k) ?_
      refine Go.via (S' := s₁.setTop (mkF m 26 #[.val (.int p1), .val (.int (p1 &&& (255 : Int32))), .unset] [(.int (16 : Int32)), (.int (p1 &&& (255 : Int32)))])) (fun _ k => XS.bipush X0.here hx rfl (hb hby at_24) k) ?_
      rcases Decidable.em ((p1 &&& (255 : Int32)) < (16 : Int32)) with hc26 | hc26
      · refine Go.via (S' := s₁.setTop (mkF m 39 #[.val (.int p1), .val (.int (p1 &&& (255 : Int32))), .unset] [])) (fun _ k => XS.icmpYes X0.here hx rfl (pc0 := 26) (pc' := 39) rfl (hb hby at_26) rfl (tlt hc26).1 (by decide) (by decide) k) ?_
        refine Go.via (S' := s₁.setTop (mkF m 40 #[.val (.int p1), .val (.int (p1 &&& (255 : Int32))), .unset] [(.int (0 : Int32))])) (fun _ k => XS.iconst X0.here hx rfl (hb hby at_39) k) ?_
        refine Go.via (S' := s₁.setTop (mkF m 41 #[.val (.int p1), .val (.int (p1 &&& (255 : Int32))), .val (.int (0 : Int32))] [])) (fun _ k => XS.istoreN X0.here hx rfl (hb hby at_40) rfl (l' := #[.val (.int p1), .val (.int (p1 &&& (255 : Int32))), .val (.int (0 : Int32))]) rfl k) ?_
        refine Go.via (S' := s₁.setTop (mkF m 42 #[.val (.int p1), .val (.int (p1 &&& (255 : Int32))), .val (.int (0 : Int32))] [(.int (p1 &&& (255 : Int32)))])) (fun _ k => XS.iloadN X0.here hx rfl (hb hby at_41) rfl k) ?_
        obtain ⟨_, _, ⟨T3, L3, k3, n3⟩, -, X3, ⟨Lc3, hQ3, l3, y3, z3⟩, st3⟩ := Jvm.LawKit.callS X0 hx (y := (⟨"com/example/assayline/assayline/Frame", "restricted", "(I)Z"⟩ : MethodName)) hown (mvT hZ (hw _ (List.mem_of_getElem? (i := 0) rfl))) (mvT hZ (hw _ (List.mem_of_getElem? (i := 1) rfl))) (mvT hZ (hw _ (List.mem_of_getElem? (i := 2) rfl))) (mvT hZ (hw _ (List.mem_of_getElem? (i := 3) rfl))) (by decide) (backOf (W := 0) (rm1 l Z a0 hw [] (p1 &&& (255 : Int32)) h0 n0 Z0) hZ (hw _ (List.mem_of_getElem? (i := 3) rfl)) (hw _ (List.mem_of_getElem? (i := 2) rfl)) (by decide) (by decide)) (g := (mkF m 42 #[.val (.int p1), .val (.int (p1 &&& (255 : Int32))), .val (.int (0 : Int32))] [(.int (p1 &&& (255 : Int32)))])) rfl (by rw [hml]; rfl) (argsL := [(.int (p1 &&& (255 : Int32)))]) (rest := []) (lenOf pd_0 rfl) rfl (by show 2 * 0 + _ ≤ _; exact Nat.le_of_eq rfl) (hb hby at_42) (fun _ _ => ⟨rfl, e0, (by decide : 0 + 0 ≤ _), (by decide : 0 + 0 ≤ _)⟩)
        dsimp only [Pt.U, Pt.locs, Pt.cells, Pt.slots] at X3 l3 y3 z3 st3 hQ3
        subst l3 y3 z3
        obtain ⟨r3, rfl, N3q, e3, hr3⟩ := hQ3
        have N4 := Fr.app N0 N3q
        refine Go.via (S' := T3.setTop (mkF m 45 #[.val (.int p1), .val (.int (p1 &&& (255 : Int32))), .val (.int (0 : Int32))] [(.int r3)])) (fun _ k => st3 _ k) ?_
        rcases hr3 with ⟨rfl, hR⟩ | ⟨rfl, hR⟩
        · refine Go.via (S' := T3.setTop (mkF m 46 #[.val (.int p1), .val (.int (p1 &&& (255 : Int32))), .val (.int (0 : Int32))] [(.int (0 : Int32)), (.int (1 : Int32))])) (fun _ k => XS.iloadN X3.here hx rfl (hb hby at_45) rfl k) ?_
          refine Go.via (S' := T3.setTop (mkF m 53 #[.val (.int p1), .val (.int (p1 &&& (255 : Int32))), .val (.int (0 : Int32))] [])) (fun _ k => XS.icmpYes X3.here hx rfl (pc0 := 46) (pc' := 53) rfl (hb hby at_46) rfl (feq (by decide)).2 (by decide) (by decide) k) ?_
          exfalso
          have hm := c_mask p1 255 8 (by decide) (by decide)
          unfold own_R at hR
          simp only [Int32.lt_iff_toInt_lt, ← Int32.toInt_inj, Int32.reduceToInt] at hc8 hc20 hc26
          omega
        · refine Go.via (S' := T3.setTop (mkF m 46 #[.val (.int p1), .val (.int (p1 &&& (255 : Int32))), .val (.int (0 : Int32))] [(.int (0 : Int32)), (.int (0 : Int32))])) (fun _ k => XS.iloadN X3.here hx rfl (hb hby at_45) rfl k) ?_
          refine Go.via (S' := T3.setTop (mkF m 49 #[.val (.int p1), .val (.int (p1 &&& (255 : Int32))), .val (.int (0 : Int32))] [])) (fun _ k => XS.icmpNo X3.here hx rfl (hb hby at_46) rfl (teq (by decide)).2 k) ?_
          refine Go.via (S' := T3.setTop (mkF m 50 #[.val (.int p1), .val (.int (p1 &&& (255 : Int32))), .val (.int (0 : Int32))] [(.int (1 : Int32))])) (fun _ k => XS.iconst X3.here hx rfl (hb hby at_49) k) ?_
          refine Go.via (S' := T3.setTop (mkF m 54 #[.val (.int p1), .val (.int (p1 &&& (255 : Int32))), .val (.int (0 : Int32))] [(.int (1 : Int32))])) (fun _ k => XS.goto X3.here hx rfl (pc0 := 50) (pc' := 54) rfl (hb hby at_50) (by decide) (by decide) k) ?_
          exact Go.retB X3 hx (BodyLoose.notSynchronized Bd) Bd.returns (hb hby at_54) rfl (by rw [e3]; exact ⟨rfl, N4⟩) (by decide) (by decide)
      · refine Go.via (S' := s₁.setTop (mkF m 29 #[.val (.int p1), .val (.int (p1 &&& (255 : Int32))), .unset] [])) (fun _ k => XS.icmpNo X0.here hx rfl (hb hby at_26) rfl (flt hc26).1 k) ?_
        refine Go.via (S' := s₁.setTop (mkF m 30 #[.val (.int p1), .val (.int (p1 &&& (255 : Int32))), .unset] [(.int (p1 &&& (255 : Int32)))])) (fun _ k => XS.iloadN X0.here hx rfl (hb hby at_29) rfl k) ?_
        refine Go.via (S' := s₁.setTop (mkF m 32 #[.val (.int p1), .val (.int (p1 &&& (255 : Int32))), .unset] [(.int (23 : Int32)), (.int (p1 &&& (255 : Int32)))])) (fun _ k => XS.bipush X0.here hx rfl (hb hby at_30) k) ?_
        rcases Decidable.em ((23 : Int32) < (p1 &&& (255 : Int32))) with hc32 | hc32
        · refine Go.via (S' := s₁.setTop (mkF m 39 #[.val (.int p1), .val (.int (p1 &&& (255 : Int32))), .unset] [])) (fun _ k => XS.icmpYes X0.here hx rfl (pc0 := 32) (pc' := 39) rfl (hb hby at_32) rfl (tlt hc32).2.2.1 (by decide) (by decide) k) ?_
          refine Go.via (S' := s₁.setTop (mkF m 40 #[.val (.int p1), .val (.int (p1 &&& (255 : Int32))), .unset] [(.int (0 : Int32))])) (fun _ k => XS.iconst X0.here hx rfl (hb hby at_39) k) ?_
          refine Go.via (S' := s₁.setTop (mkF m 41 #[.val (.int p1), .val (.int (p1 &&& (255 : Int32))), .val (.int (0 : Int32))] [])) (fun _ k => XS.istoreN X0.here hx rfl (hb hby at_40) rfl (l' := #[.val (.int p1), .val (.int (p1 &&& (255 : Int32))), .val (.int (0 : Int32))]) rfl k) ?_
          refine Go.via (S' := s₁.setTop (mkF m 42 #[.val (.int p1), .val (.int (p1 &&& (255 : Int32))), .val (.int (0 : Int32))] [(.int (p1 &&& (255 : Int32)))])) (fun _ k => XS.iloadN X0.here hx rfl (hb hby at_41) rfl k) ?_
          obtain ⟨_, _, ⟨T5, L5, k5, n5⟩, -, X5, ⟨Lc5, hQ5, l5, y5, z5⟩, st5⟩ := Jvm.LawKit.callS X0 hx (y := (⟨"com/example/assayline/assayline/Frame", "restricted", "(I)Z"⟩ : MethodName)) hown (mvT hZ (hw _ (List.mem_of_getElem? (i := 0) rfl))) (mvT hZ (hw _ (List.mem_of_getElem? (i := 1) rfl))) (mvT hZ (hw _ (List.mem_of_getElem? (i := 2) rfl))) (mvT hZ (hw _ (List.mem_of_getElem? (i := 3) rfl))) (by decide) (backOf (W := 0) (rm1 l Z a0 hw [] (p1 &&& (255 : Int32)) h0 n0 Z0) hZ (hw _ (List.mem_of_getElem? (i := 3) rfl)) (hw _ (List.mem_of_getElem? (i := 2) rfl)) (by decide) (by decide)) (g := (mkF m 42 #[.val (.int p1), .val (.int (p1 &&& (255 : Int32))), .val (.int (0 : Int32))] [(.int (p1 &&& (255 : Int32)))])) rfl (by rw [hml]; rfl) (argsL := [(.int (p1 &&& (255 : Int32)))]) (rest := []) (lenOf pd_0 rfl) rfl (by show 2 * 0 + _ ≤ _; exact Nat.le_of_eq rfl) (hb hby at_42) (fun _ _ => ⟨rfl, e0, (by decide : 0 + 0 ≤ _), (by decide : 0 + 0 ≤ _)⟩)
          dsimp only [Pt.U, Pt.locs, Pt.cells, Pt.slots] at X5 l5 y5 z5 st5 hQ5
          subst l5 y5 z5
          obtain ⟨r5, rfl, N5q, e5, hr5⟩ := hQ5
          have N6 := Fr.app N0 N5q
          refine Go.via (S' := T5.setTop (mkF m 45 #[.val (.int p1), .val (.int (p1 &&& (255 : Int32))), .val (.int (0 : Int32))] [(.int r5)])) (fun _ k => st5 _ k) ?_
          rcases hr5 with ⟨rfl, hR⟩ | ⟨rfl, hR⟩
          · refine Go.via (S' := T5.setTop (mkF m 46 #[.val (.int p1), .val (.int (p1 &&& (255 : Int32))), .val (.int (0 : Int32))] [(.int (0 : Int32)), (.int (1 : Int32))])) (fun _ k => XS.iloadN X5.here hx rfl (hb hby at_45) rfl k) ?_
            refine Go.via (S' := T5.setTop (mkF m 53 #[.val (.int p1), .val (.int (p1 &&& (255 : Int32))), .val (.int (0 : Int32))] [])) (fun _ k => XS.icmpYes X5.here hx rfl (pc0 := 46) (pc' := 53) rfl (hb hby at_46) rfl (feq (by decide)).2 (by decide) (by decide) k) ?_
            exfalso
            have hm := c_mask p1 255 8 (by decide) (by decide)
            unfold own_R at hR
            simp only [Int32.lt_iff_toInt_lt, ← Int32.toInt_inj, Int32.reduceToInt] at hc8 hc20 hc26 hc32
            omega
          · refine Go.via (S' := T5.setTop (mkF m 46 #[.val (.int p1), .val (.int (p1 &&& (255 : Int32))), .val (.int (0 : Int32))] [(.int (0 : Int32)), (.int (0 : Int32))])) (fun _ k => XS.iloadN X5.here hx rfl (hb hby at_45) rfl k) ?_
            refine Go.via (S' := T5.setTop (mkF m 49 #[.val (.int p1), .val (.int (p1 &&& (255 : Int32))), .val (.int (0 : Int32))] [])) (fun _ k => XS.icmpNo X5.here hx rfl (hb hby at_46) rfl (teq (by decide)).2 k) ?_
            refine Go.via (S' := T5.setTop (mkF m 50 #[.val (.int p1), .val (.int (p1 &&& (255 : Int32))), .val (.int (0 : Int32))] [(.int (1 : Int32))])) (fun _ k => XS.iconst X5.here hx rfl (hb hby at_49) k) ?_
            refine Go.via (S' := T5.setTop (mkF m 54 #[.val (.int p1), .val (.int (p1 &&& (255 : Int32))), .val (.int (0 : Int32))] [(.int (1 : Int32))])) (fun _ k => XS.goto X5.here hx rfl (pc0 := 50) (pc' := 54) rfl (hb hby at_50) (by decide) (by decide) k) ?_
            exact Go.retB X5 hx (BodyLoose.notSynchronized Bd) Bd.returns (hb hby at_54) rfl (by rw [e5]; exact ⟨rfl, N6⟩) (by decide) (by decide)
        · refine Go.via (S' := s₁.setTop (mkF m 35 #[.val (.int p1), .val (.int (p1 &&& (255 : Int32))), .unset] [])) (fun _ k => XS.icmpNo X0.here hx rfl (hb hby at_32) rfl (flt hc32).2.2.1 k) ?_
          refine Go.via (S' := s₁.setTop (mkF m 36 #[.val (.int p1), .val (.int (p1 &&& (255 : Int32))), .unset] [(.int (1 : Int32))])) (fun _ k => XS.iconst X0.here hx rfl (hb hby at_35) k) ?_
          refine Go.via (S' := s₁.setTop (mkF m 40 #[.val (.int p1), .val (.int (p1 &&& (255 : Int32))), .unset] [(.int (1 : Int32))])) (fun _ k => XS.goto X0.here hx rfl (pc0 := 36) (pc' := 40) rfl (hb hby at_36) (by decide) (by decide) k) ?_
          refine Go.via (S' := s₁.setTop (mkF m 41 #[.val (.int p1), .val (.int (p1 &&& (255 : Int32))), .val (.int (1 : Int32))] [])) (fun _ k => XS.istoreN X0.here hx rfl (hb hby at_40) rfl (l' := #[.val (.int p1), .val (.int (p1 &&& (255 : Int32))), .val (.int (1 : Int32))]) rfl k) ?_
          refine Go.via (S' := s₁.setTop (mkF m 42 #[.val (.int p1), .val (.int (p1 &&& (255 : Int32))), .val (.int (1 : Int32))] [(.int (p1 &&& (255 : Int32)))])) (fun _ k => XS.iloadN X0.here hx rfl (hb hby at_41) rfl k) ?_
          obtain ⟨_, _, ⟨T7, L7, k7, n7⟩, -, X7, ⟨Lc7, hQ7, l7, y7, z7⟩, st7⟩ := Jvm.LawKit.callS X0 hx (y := (⟨"com/example/assayline/assayline/Frame", "restricted", "(I)Z"⟩ : MethodName)) hown (mvT hZ (hw _ (List.mem_of_getElem? (i := 0) rfl))) (mvT hZ (hw _ (List.mem_of_getElem? (i := 1) rfl))) (mvT hZ (hw _ (List.mem_of_getElem? (i := 2) rfl))) (mvT hZ (hw _ (List.mem_of_getElem? (i := 3) rfl))) (by decide) (backOf (W := 0) (rm1 l Z a0 hw [] (p1 &&& (255 : Int32)) h0 n0 Z0) hZ (hw _ (List.mem_of_getElem? (i := 3) rfl)) (hw _ (List.mem_of_getElem? (i := 2) rfl)) (by decide) (by decide)) (g := (mkF m 42 #[.val (.int p1), .val (.int (p1 &&& (255 : Int32))), .val (.int (1 : Int32))] [(.int (p1 &&& (255 : Int32)))])) rfl (by rw [hml]; rfl) (argsL := [(.int (p1 &&& (255 : Int32)))]) (rest := []) (lenOf pd_0 rfl) rfl (by show 2 * 0 + _ ≤ _; exact Nat.le_of_eq rfl) (hb hby at_42) (fun _ _ => ⟨rfl, e0, (by decide : 0 + 0 ≤ _), (by decide : 0 + 0 ≤ _)⟩)
          dsimp only [Pt.U, Pt.locs, Pt.cells, Pt.slots] at X7 l7 y7 z7 st7 hQ7
          subst l7 y7 z7
          obtain ⟨r7, rfl, N7q, e7, hr7⟩ := hQ7
          have N8 := Fr.app N0 N7q
          refine Go.via (S' := T7.setTop (mkF m 45 #[.val (.int p1), .val (.int (p1 &&& (255 : Int32))), .val (.int (1 : Int32))] [(.int r7)])) (fun _ k => st7 _ k) ?_
          rcases hr7 with ⟨rfl, hR⟩ | ⟨rfl, hR⟩
          · refine Go.via (S' := T7.setTop (mkF m 46 #[.val (.int p1), .val (.int (p1 &&& (255 : Int32))), .val (.int (1 : Int32))] [(.int (1 : Int32)), (.int (1 : Int32))])) (fun _ k => XS.iloadN X7.here hx rfl (hb hby at_45) rfl k) ?_
            refine Go.via (S' := T7.setTop (mkF m 49 #[.val (.int p1), .val (.int (p1 &&& (255 : Int32))), .val (.int (1 : Int32))] [])) (fun _ k => XS.icmpNo X7.here hx rfl (hb hby at_46) rfl (teq (by decide)).2 k) ?_
            refine Go.via (S' := T7.setTop (mkF m 50 #[.val (.int p1), .val (.int (p1 &&& (255 : Int32))), .val (.int (1 : Int32))] [(.int (1 : Int32))])) (fun _ k => XS.iconst X7.here hx rfl (hb hby at_49) k) ?_
            refine Go.via (S' := T7.setTop (mkF m 54 #[.val (.int p1), .val (.int (p1 &&& (255 : Int32))), .val (.int (1 : Int32))] [(.int (1 : Int32))])) (fun _ k => XS.goto X7.here hx rfl (pc0 := 50) (pc' := 54) rfl (hb hby at_50) (by decide) (by decide) k) ?_
            exact Go.retB X7 hx (BodyLoose.notSynchronized Bd) Bd.returns (hb hby at_54) rfl (by rw [e7]; exact ⟨rfl, N8⟩) (by decide) (by decide)
          · refine Go.via (S' := T7.setTop (mkF m 46 #[.val (.int p1), .val (.int (p1 &&& (255 : Int32))), .val (.int (1 : Int32))] [(.int (1 : Int32)), (.int (0 : Int32))])) (fun _ k => XS.iloadN X7.here hx rfl (hb hby at_45) rfl k) ?_
            refine Go.via (S' := T7.setTop (mkF m 53 #[.val (.int p1), .val (.int (p1 &&& (255 : Int32))), .val (.int (1 : Int32))] [])) (fun _ k => XS.icmpYes X7.here hx rfl (pc0 := 46) (pc' := 53) rfl (hb hby at_46) rfl (feq (by decide)).2 (by decide) (by decide) k) ?_
            exfalso
            have hm := c_mask p1 255 8 (by decide) (by decide)
            unfold own_R at hR
            simp only [Int32.lt_iff_toInt_lt, ← Int32.toInt_inj, Int32.reduceToInt] at hc8 hc20 hc26 hc32
            omega
  · refine Go.via (S' := s₁.setTop (mkF m 11 #[.val (.int p1), .val (.int (p1 &&& (255 : Int32))), .unset] [])) (fun _ k => XS.icmpNo X0.here hx rfl (hb hby at_8) rfl (flt hc8).1 k) ?_
    refine Go.via (S' := s₁.setTop (mkF m 12 #[.val (.int p1), .val (.int (p1 &&& (255 : Int32))), .unset] [(.int (p1 &&& (255 : Int32)))])) (fun _ k => XS.iloadN X0.here hx rfl (hb hby at_11) rfl k) ?_
    refine Go.via (S' := s₁.setTop (mkF m 14 #[.val (.int p1), .val (.int (p1 &&& (255 : Int32))), .unset] [(.int (6 : Int32)), (.int (p1 &&& (255 : Int32)))])) (fun _ k => XS.bipush X0.here hx rfl (hb hby at_12) k) ?_
    rcases Decidable.em ((6 : Int32) < (p1 &&& (255 : Int32))) with hc14 | hc14
    · refine Go.via (S' := s₁.setTop (mkF m 17 #[.val (.int p1), .val (.int (p1 &&& (255 : Int32))), .unset] [])) (fun _ k => XS.icmpNo X0.here hx rfl (hb hby at_14) rfl (tlt hc14).2.2.2 k) ?_
      refine Go.via (S' := s₁.setTop (mkF m 18 #[.val (.int p1), .val (.int (p1 &&& (255 : Int32))), .unset] [(.int (p1 &&& (255 : Int32)))])) (fun _ k => XS.iloadN X0.here hx rfl (hb hby at_17) rfl k) ?_
      refine Go.via (S' := s₁.setTop (mkF m 20 #[.val (.int p1), .val (.int (p1 &&& (255 : Int32))), .unset] [(.int (10 : Int32)), (.int (p1 &&& (255 : Int32)))])) (fun _ k => XS.bipush X0.here hx rfl (hb hby at_18) k) ?_
      rcases Decidable.em ((p1 &&& (255 : Int32)) = (10 : Int32)) with hc20 | hc20
      · refine Go.via (S' := s₁.setTop (mkF m 35 #[.val (.int p1), .val (.int (p1 &&& (255 : Int32))), .unset] [])) (fun _ k => XS.icmpYes X0.here hx rfl (pc0 := 20) (pc' := 35) rfl (hb hby at_20) rfl (teq hc20).1 (by decide) (by decide) k) ?_
        refine Go.via (S' := s₁.setTop (mkF m 36 #[.val (.int p1), .val (.int (p1 &&& (255 : Int32))), .unset] [(.int (1 : Int32))])) (fun _ k => XS.iconst X0.here hx rfl (hb hby at_35) k) ?_
        refine Go.via (S' := s₁.setTop (mkF m 40 #[.val (.int p1), .val (.int (p1 &&& (255 : Int32))), .unset] [(.int (1 : Int32))])) (fun _ k => XS.goto X0.here hx rfl (pc0 := 36) (pc' := 40) rfl (hb hby at_36) (by decide) (by decide) k) ?_
        refine Go.via (S' := s₁.setTop (mkF m 41 #[.val (.int p1), .val (.int (p1 &&& (255 : Int32))), .val (.int (1 : Int32))] [])) (fun _ k => XS.istoreN X0.here hx rfl (hb hby at_40) rfl (l' := #[.val (.int p1), .val (.int (p1 &&& (255 : Int32))), .val (.int (1 : Int32))]) rfl k) ?_
        refine Go.via (S' := s₁.setTop (mkF m 42 #[.val (.int p1), .val (.int (p1 &&& (255 : Int32))), .val (.int (1 : Int32))] [(.int (p1 &&& (255 : Int32)))])) (fun _ k => XS.iloadN X0.here hx rfl (hb hby at_41) rfl k) ?_
        obtain ⟨_, _, ⟨T9, L9, k9, n9⟩, -, X9, ⟨Lc9, hQ9, l9, y9, z9⟩, st9⟩ := Jvm.LawKit.callS X0 hx (y := (⟨"com/example/assayline/assayline/Frame", "restricted", "(I)Z"⟩ : MethodName)) hown (mvT hZ (hw _ (List.mem_of_getElem? (i := 0) rfl))) (mvT hZ (hw _ (List.mem_of_getElem? (i := 1) rfl))) (mvT hZ (hw _ (List.mem_of_getElem? (i := 2) rfl))) (mvT hZ (hw _ (List.mem_of_getElem? (i := 3) rfl))) (by decide) (backOf (W := 0) (rm1 l Z a0 hw [] (p1 &&& (255 : Int32)) h0 n0 Z0) hZ (hw _ (List.mem_of_getElem? (i := 3) rfl)) (hw _ (List.mem_of_getElem? (i := 2) rfl)) (by decide) (by decide)) (g := (mkF m 42 #[.val (.int p1), .val (.int (p1 &&& (255 : Int32))), .val (.int (1 : Int32))] [(.int (p1 &&& (255 : Int32)))])) rfl (by rw [hml]; rfl) (argsL := [(.int (p1 &&& (255 : Int32)))]) (rest := []) (lenOf pd_0 rfl) rfl (by show 2 * 0 + _ ≤ _; exact Nat.le_of_eq rfl) (hb hby at_42) (fun _ _ => ⟨rfl, e0, (by decide : 0 + 0 ≤ _), (by decide : 0 + 0 ≤ _)⟩)
        dsimp only [Pt.U, Pt.locs, Pt.cells, Pt.slots] at X9 l9 y9 z9 st9 hQ9
        subst l9 y9 z9
        obtain ⟨r9, rfl, N9q, e9, hr9⟩ := hQ9
        have N10 := Fr.app N0 N9q
        refine Go.via (S' := T9.setTop (mkF m 45 #[.val (.int p1), .val (.int (p1 &&& (255 : Int32))), .val (.int (1 : Int32))] [(.int r9)])) (fun _ k => st9 _ k) ?_
        rcases hr9 with ⟨rfl, hR⟩ | ⟨rfl, hR⟩
        · refine Go.via (S' := T9.setTop (mkF m 46 #[.val (.int p1), .val (.int (p1 &&& (255 : Int32))), .val (.int (1 : Int32))] [(.int (1 : Int32)), (.int (1 : Int32))])) (fun _ k => XS.iloadN X9.here hx rfl (hb hby at_45) rfl k) ?_
          refine Go.via (S' := T9.setTop (mkF m 49 #[.val (.int p1), .val (.int (p1 &&& (255 : Int32))), .val (.int (1 : Int32))] [])) (fun _ k => XS.icmpNo X9.here hx rfl (hb hby at_46) rfl (teq (by decide)).2 k) ?_
          refine Go.via (S' := T9.setTop (mkF m 50 #[.val (.int p1), .val (.int (p1 &&& (255 : Int32))), .val (.int (1 : Int32))] [(.int (1 : Int32))])) (fun _ k => XS.iconst X9.here hx rfl (hb hby at_49) k) ?_
          refine Go.via (S' := T9.setTop (mkF m 54 #[.val (.int p1), .val (.int (p1 &&& (255 : Int32))), .val (.int (1 : Int32))] [(.int (1 : Int32))])) (fun _ k => XS.goto X9.here hx rfl (pc0 := 50) (pc' := 54) rfl (hb hby at_50) (by decide) (by decide) k) ?_
          exact Go.retB X9 hx (BodyLoose.notSynchronized Bd) Bd.returns (hb hby at_54) rfl (by rw [e9]; exact ⟨rfl, N10⟩) (by decide) (by decide)
        · refine Go.via (S' := T9.setTop (mkF m 46 #[.val (.int p1), .val (.int (p1 &&& (255 : Int32))), .val (.int (1 : Int32))] [(.int (1 : Int32)), (.int (0 : Int32))])) (fun _ k => XS.iloadN X9.here hx rfl (hb hby at_45) rfl k) ?_
          refine Go.via (S' := T9.setTop (mkF m 53 #[.val (.int p1), .val (.int (p1 &&& (255 : Int32))), .val (.int (1 : Int32))] [])) (fun _ k => XS.icmpYes X9.here hx rfl (pc0 := 46) (pc' := 53) rfl (hb hby at_46) rfl (feq (by decide)).2 (by decide) (by decide) k) ?_
          exfalso
          have hm := c_mask p1 255 8 (by decide) (by decide)
          unfold own_R at hR
          simp only [Int32.lt_iff_toInt_lt, ← Int32.toInt_inj, Int32.reduceToInt] at hc8 hc14 hc20
          omega
      · refine Go.via (S' := s₁.setTop (mkF m 23 #[.val (.int p1), .val (.int (p1 &&& (255 : Int32))), .unset] [])) (fun _ k => XS.icmpNo X0.here hx rfl (hb hby at_20) rfl (feq hc20).1 k) ?_
        refine Go.via (S' := s₁.setTop (mkF m 24 #[.val (.int p1), .val (.int (p1 &&& (255 : Int32))), .unset] [(.int (p1 &&& (255 : Int32)))])) (fun _ k => XS.iloadN X0.here hx rfl (hb hby at_23) rfl k) ?_
        refine Go.via (S' := s₁.setTop (mkF m 26 #[.val (.int p1), .val (.int (p1 &&& (255 : Int32))), .unset] [(.int (16 : Int32)), (.int (p1 &&& (255 : Int32)))])) (fun _ k => XS.bipush X0.here hx rfl (hb hby at_24) k) ?_
        rcases Decidable.em ((p1 &&& (255 : Int32)) < (16 : Int32)) with hc26 | hc26
        · refine Go.via (S' := s₁.setTop (mkF m 39 #[.val (.int p1), .val (.int (p1 &&& (255 : Int32))), .unset] [])) (fun _ k => XS.icmpYes X0.here hx rfl (pc0 := 26) (pc' := 39) rfl (hb hby at_26) rfl (tlt hc26).1 (by decide) (by decide) k) ?_
          refine Go.via (S' := s₁.setTop (mkF m 40 #[.val (.int p1), .val (.int (p1 &&& (255 : Int32))), .unset] [(.int (0 : Int32))])) (fun _ k => XS.iconst X0.here hx rfl (hb hby at_39) k) ?_
          refine Go.via (S' := s₁.setTop (mkF m 41 #[.val (.int p1), .val (.int (p1 &&& (255 : Int32))), .val (.int (0 : Int32))] [])) (fun _ k => XS.istoreN X0.here hx rfl (hb hby at_40) rfl (l' := #[.val (.int p1), .val (.int (p1 &&& (255 : Int32))), .val (.int (0 : Int32))]) rfl k) ?_
          refine Go.via (S' := s₁.setTop (mkF m 42 #[.val (.int p1), .val (.int (p1 &&& (255 : Int32))), .val (.int (0 : Int32))] [(.int (p1 &&& (255 : Int32)))])) (fun _ k => XS.iloadN X0.here hx rfl (hb hby at_41) rfl k) ?_
          obtain ⟨_, _, ⟨T11, L11, k11, n11⟩, -, X11, ⟨Lc11, hQ11, l11, y11, z11⟩, st11⟩ := Jvm.LawKit.callS X0 hx (y := (⟨"com/example/assayline/assayline/Frame", "restricted", "(I)Z"⟩ : MethodName)) hown (mvT hZ (hw _ (List.mem_of_getElem? (i := 0) rfl))) (mvT hZ (hw _ (List.mem_of_getElem? (i := 1) rfl))) (mvT hZ (hw _ (List.mem_of_getElem? (i := 2) rfl))) (mvT hZ (hw _ (List.mem_of_getElem? (i := 3) rfl))) (by decide) (backOf (W := 0) (rm1 l Z a0 hw [] (p1 &&& (255 : Int32)) h0 n0 Z0) hZ (hw _ (List.mem_of_getElem? (i := 3) rfl)) (hw _ (List.mem_of_getElem? (i := 2) rfl)) (by decide) (by decide)) (g := (mkF m 42 #[.val (.int p1), .val (.int (p1 &&& (255 : Int32))), .val (.int (0 : Int32))] [(.int (p1 &&& (255 : Int32)))])) rfl (by rw [hml]; rfl) (argsL := [(.int (p1 &&& (255 : Int32)))]) (rest := []) (lenOf pd_0 rfl) rfl (by show 2 * 0 + _ ≤ _; exact Nat.le_of_eq rfl) (hb hby at_42) (fun _ _ => ⟨rfl, e0, (by decide : 0 + 0 ≤ _), (by decide : 0 + 0 ≤ _)⟩)
          dsimp only [Pt.U, Pt.locs, Pt.cells, Pt.slots] at X11 l11 y11 z11 st11 hQ11
          subst l11 y11 z11
          obtain ⟨r11, rfl, N11q, e11, hr11⟩ := hQ11
          have N12 := Fr.app N0 N11q
          refine Go.via (S' := T11.setTop (mkF m 45 #[.val (.int p1), .val (.int (p1 &&& (255 : Int32))), .val (.int (0 : Int32))] [(.int r11)])) (fun _ k => st11 _ k) ?_
          rcases hr11 with ⟨rfl, hR⟩ | ⟨rfl, hR⟩
          · refine Go.via (S' := T11.setTop (mkF m 46 #[.val (.int p1), .val (.int (p1 &&& (255 : Int32))), .val (.int (0 : Int32))] [(.int (0 : Int32)), (.int (1 : Int32))])) (fun _ k => XS.iloadN X11.here hx rfl (hb hby at_45) rfl k) ?_
            refine Go.via (S' := T11.setTop (mkF m 53 #[.val (.int p1), .val (.int (p1 &&& (255 : Int32))), .val (.int (0 : Int32))] [])) (fun _ k => XS.icmpYes X11.here hx rfl (pc0 := 46) (pc' := 53) rfl (hb hby at_46) rfl (feq (by decide)).2 (by decide) (by decide) k) ?_
            exfalso
            have hm := c_mask p1 255 8 (by decide) (by decide)
            unfold own_R at hR
            simp only [Int32.lt_iff_toInt_lt, ← Int32.toInt_inj, Int32.reduceToInt] at hc8 hc14 hc20 hc26
            omega
          · refine Go.via (S' := T11.setTop (mkF m 46 #[.val (.int p1), .val (.int (p1 &&& (255 : Int32))), .val (.int (0 : Int32))] [(.int (0 : Int32)), (.int (0 : Int32))])) (fun _ k => XS.iloadN X11.here hx rfl (hb hby at_45) rfl k) ?_
            refine Go.via (S' := T11.setTop (mkF m 49 #[.val (.int p1), .val (.int (p1 &&& (255 : Int32))), .val (.int (0 : Int32))] [])) (fun _ k => XS.icmpNo X11.here hx rfl (hb hby at_46) rfl (teq (by decide)).2 k) ?_
            refine Go.via (S' := T11.setTop (mkF m 50 #[.val (.int p1), .val (.int (p1 &&& (255 : Int32))), .val (.int (0 : Int32))] [(.int (1 : Int32))])) (fun _ k => XS.iconst X11.here hx rfl (hb hby at_49) k) ?_
            refine Go.via (S' := T11.setTop (mkF m 54 #[.val (.int p1), .val (.int (p1 &&& (255 : Int32))), .val (.int (0 : Int32))] [(.int (1 : Int32))])) (fun _ k => XS.goto X11.here hx rfl (pc0 := 50) (pc' := 54) rfl (hb hby at_50) (by decide) (by decide) k) ?_
            exact Go.retB X11 hx (BodyLoose.notSynchronized Bd) Bd.returns (hb hby at_54) rfl (by rw [e11]; exact ⟨rfl, N12⟩) (by decide) (by decide)
        · refine Go.via (S' := s₁.setTop (mkF m 29 #[.val (.int p1), .val (.int (p1 &&& (255 : Int32))), .unset] [])) (fun _ k => XS.icmpNo X0.here hx rfl (hb hby at_26) rfl (flt hc26).1 k) ?_
          refine Go.via (S' := s₁.setTop (mkF m 30 #[.val (.int p1), .val (.int (p1 &&& (255 : Int32))), .unset] [(.int (p1 &&& (255 : Int32)))])) (fun _ k => XS.iloadN X0.here hx rfl (hb hby at_29) rfl k) ?_
          refine Go.via (S' := s₁.setTop (mkF m 32 #[.val (.int p1), .val (.int (p1 &&& (255 : Int32))), .unset] [(.int (23 : Int32)), (.int (p1 &&& (255 : Int32)))])) (fun _ k => XS.bipush X0.here hx rfl (hb hby at_30) k) ?_
          rcases Decidable.em ((23 : Int32) < (p1 &&& (255 : Int32))) with hc32 | hc32
          · refine Go.via (S' := s₁.setTop (mkF m 39 #[.val (.int p1), .val (.int (p1 &&& (255 : Int32))), .unset] [])) (fun _ k => XS.icmpYes X0.here hx rfl (pc0 := 32) (pc' := 39) rfl (hb hby at_32) rfl (tlt hc32).2.2.1 (by decide) (by decide) k) ?_
            refine Go.via (S' := s₁.setTop (mkF m 40 #[.val (.int p1), .val (.int (p1 &&& (255 : Int32))), .unset] [(.int (0 : Int32))])) (fun _ k => XS.iconst X0.here hx rfl (hb hby at_39) k) ?_
            refine Go.via (S' := s₁.setTop (mkF m 41 #[.val (.int p1), .val (.int (p1 &&& (255 : Int32))), .val (.int (0 : Int32))] [])) (fun _ k => XS.istoreN X0.here hx rfl (hb hby at_40) rfl (l' := #[.val (.int p1), .val (.int (p1 &&& (255 : Int32))), .val (.int (0 : Int32))]) rfl k) ?_
            refine Go.via (S' := s₁.setTop (mkF m 42 #[.val (.int p1), .val (.int (p1 &&& (255 : Int32))), .val (.int (0 : Int32))] [(.int (p1 &&& (255 : Int32)))])) (fun _ k => XS.iloadN X0.here hx rfl (hb hby at_41) rfl k) ?_
            obtain ⟨_, _, ⟨T13, L13, k13, n13⟩, -, X13, ⟨Lc13, hQ13, l13, y13, z13⟩, st13⟩ := Jvm.LawKit.callS X0 hx (y := (⟨"com/example/assayline/assayline/Frame", "restricted", "(I)Z"⟩ : MethodName)) hown (mvT hZ (hw _ (List.mem_of_getElem? (i := 0) rfl))) (mvT hZ (hw _ (List.mem_of_getElem? (i := 1) rfl))) (mvT hZ (hw _ (List.mem_of_getElem? (i := 2) rfl))) (mvT hZ (hw _ (List.mem_of_getElem? (i := 3) rfl))) (by decide) (backOf (W := 0) (rm1 l Z a0 hw [] (p1 &&& (255 : Int32)) h0 n0 Z0) hZ (hw _ (List.mem_of_getElem? (i := 3) rfl)) (hw _ (List.mem_of_getElem? (i := 2) rfl)) (by decide) (by decide)) (g := (mkF m 42 #[.val (.int p1), .val (.int (p1 &&& (255 : Int32))), .val (.int (0 : Int32))] [(.int (p1 &&& (255 : Int32)))])) rfl (by rw [hml]; rfl) (argsL := [(.int (p1 &&& (255 : Int32)))]) (rest := []) (lenOf pd_0 rfl) rfl (by show 2 * 0 + _ ≤ _; exact Nat.le_of_eq rfl) (hb hby at_42) (fun _ _ => ⟨rfl, e0, (by decide : 0 + 0 ≤ _), (by decide : 0 + 0 ≤ _)⟩)
            dsimp only [Pt.U, Pt.locs, Pt.cells, Pt.slots] at X13 l13 y13 z13 st13 hQ13
            subst l13 y13 z13
            obtain ⟨r13, rfl, N13q, e13, hr13⟩ := hQ13
            have N14 := Fr.app N0 N13q
            refine Go.via (S' := T13.setTop (mkF m 45 #[.val (.int p1), .val (.int (p1 &&& (255 : Int32))), .val (.int (0 : Int32))] [(.int r13)])) (fun _ k => st13 _ k) ?_
            rcases hr13 with ⟨rfl, hR⟩ | ⟨rfl, hR⟩
            · refine Go.via (S' := T13.setTop (mkF m 46 #[.val (.int p1), .val (.int (p1 &&& (255 : Int32))), .val (.int (0 : Int32))] [(.int (0 : Int32)), (.int (1 : Int32))])) (fun _ k => XS.iloadN X13.here hx rfl (hb hby at_45) rfl k) ?_
              refine Go.via (S' := T13.setTop (mkF m 53 #[.val (.int p1), .val (.int (p1 &&& (255 : Int32))), .val (.int (0 : Int32))] [])) (fun _ k => XS.icmpYes X13.here hx rfl (pc0 := 46) (pc' := 53) rfl (hb hby at_46) rfl (feq (by decide)).2 (by decide) (by decide) k) ?_
              exfalso
              have hm := c_mask p1 255 8 (by decide) (by decide)
              unfold own_R at hR
              simp only [Int32.lt_iff_toInt_lt, ← Int32.toInt_inj, Int32.reduceToInt] at hc8 hc14 hc20 hc26 hc32
              omega
            · refine Go.via (S' := T13.setTop (mkF m 46 #[.val (.int p1), .val (.int (p1 &&& (255 : Int32))), .val (.int (0 : Int32))] [(.int (0 : Int32)), (.int (0 : Int32))])) (fun _ k => XS.iloadN X13.here hx rfl (hb hby at_45) rfl k) ?_
              refine Go.via (S' := T13.setTop (mkF m 49 #[.val (.int p1), .val (.int (p1 &&& (255 : Int32))), .val (.int (0 : Int32))] [])) (fun _ k => XS.icmpNo X13.here hx rfl (hb hby at_46) rfl (teq (by decide)).2 k) ?_
              refine Go.via (S' := T13.setTop (mkF m 50 #[.val (.int p1), .val (.int (p1 &&& (255 : Int32))), .val (.int (0 : Int32))] [(.int (1 : Int32))])) (fun _ k => XS.iconst X13.here hx rfl (hb hby at_49) k) ?_
              refine Go.via (S' := T13.setTop (mkF m 54 #[.val (.int p1), .val (.int (p1 &&& (255 : Int32))), .val (.int (0 : Int32))] [(.int (1 : Int32))])) (fun _ k => XS.goto X13.here hx rfl (pc0 := 50) (pc' := 54) rfl (hb hby at_50) (by decide) (by decide) k) ?_
              exact Go.retB X13 hx (BodyLoose.notSynchronized Bd) Bd.returns (hb hby at_54) rfl (by rw [e13]; exact ⟨rfl, N14⟩) (by decide) (by decide)
          · refine Go.via (S' := s₁.setTop (mkF m 35 #[.val (.int p1), .val (.int (p1 &&& (255 : Int32))), .unset] [])) (fun _ k => XS.icmpNo X0.here hx rfl (hb hby at_32) rfl (flt hc32).2.2.1 k) ?_
            refine Go.via (S' := s₁.setTop (mkF m 36 #[.val (.int p1), .val (.int (p1 &&& (255 : Int32))), .unset] [(.int (1 : Int32))])) (fun _ k => XS.iconst X0.here hx rfl (hb hby at_35) k) ?_
            refine Go.via (S' := s₁.setTop (mkF m 40 #[.val (.int p1), .val (.int (p1 &&& (255 : Int32))), .unset] [(.int (1 : Int32))])) (fun _ k => XS.goto X0.here hx rfl (pc0 := 36) (pc' := 40) rfl (hb hby at_36) (by decide) (by decide) k) ?_
            refine Go.via (S' := s₁.setTop (mkF m 41 #[.val (.int p1), .val (.int (p1 &&& (255 : Int32))), .val (.int (1 : Int32))] [])) (fun _ k => XS.istoreN X0.here hx rfl (hb hby at_40) rfl (l' := #[.val (.int p1), .val (.int (p1 &&& (255 : Int32))), .val (.int (1 : Int32))]) rfl k) ?_
            refine Go.via (S' := s₁.setTop (mkF m 42 #[.val (.int p1), .val (.int (p1 &&& (255 : Int32))), .val (.int (1 : Int32))] [(.int (p1 &&& (255 : Int32)))])) (fun _ k => XS.iloadN X0.here hx rfl (hb hby at_41) rfl k) ?_
            obtain ⟨_, _, ⟨T15, L15, k15, n15⟩, -, X15, ⟨Lc15, hQ15, l15, y15, z15⟩, st15⟩ := Jvm.LawKit.callS X0 hx (y := (⟨"com/example/assayline/assayline/Frame", "restricted", "(I)Z"⟩ : MethodName)) hown (mvT hZ (hw _ (List.mem_of_getElem? (i := 0) rfl))) (mvT hZ (hw _ (List.mem_of_getElem? (i := 1) rfl))) (mvT hZ (hw _ (List.mem_of_getElem? (i := 2) rfl))) (mvT hZ (hw _ (List.mem_of_getElem? (i := 3) rfl))) (by decide) (backOf (W := 0) (rm1 l Z a0 hw [] (p1 &&& (255 : Int32)) h0 n0 Z0) hZ (hw _ (List.mem_of_getElem? (i := 3) rfl)) (hw _ (List.mem_of_getElem? (i := 2) rfl)) (by decide) (by decide)) (g := (mkF m 42 #[.val (.int p1), .val (.int (p1 &&& (255 : Int32))), .val (.int (1 : Int32))] [(.int (p1 &&& (255 : Int32)))])) rfl (by rw [hml]; rfl) (argsL := [(.int (p1 &&& (255 : Int32)))]) (rest := []) (lenOf pd_0 rfl) rfl (by show 2 * 0 + _ ≤ _; exact Nat.le_of_eq rfl) (hb hby at_42) (fun _ _ => ⟨rfl, e0, (by decide : 0 + 0 ≤ _), (by decide : 0 + 0 ≤ _)⟩)
            dsimp only [Pt.U, Pt.locs, Pt.cells, Pt.slots] at X15 l15 y15 z15 st15 hQ15
            subst l15 y15 z15
            obtain ⟨r15, rfl, N15q, e15, hr15⟩ := hQ15
            have N16 := Fr.app N0 N15q
            refine Go.via (S' := T15.setTop (mkF m 45 #[.val (.int p1), .val (.int (p1 &&& (255 : Int32))), .val (.int (1 : Int32))] [(.int r15)])) (fun _ k => st15 _ k) ?_
            rcases hr15 with ⟨rfl, hR⟩ | ⟨rfl, hR⟩
            · refine Go.via (S' := T15.setTop (mkF m 46 #[.val (.int p1), .val (.int (p1 &&& (255 : Int32))), .val (.int (1 : Int32))] [(.int (1 : Int32)), (.int (1 : Int32))])) (fun _ k => XS.iloadN X15.here hx rfl (hb hby at_45) rfl k) ?_
              refine Go.via (S' := T15.setTop (mkF m 49 #[.val (.int p1), .val (.int (p1 &&& (255 : Int32))), .val (.int (1 : Int32))] [])) (fun _ k => XS.icmpNo X15.here hx rfl (hb hby at_46) rfl (teq (by decide)).2 k) ?_
              refine Go.via (S' := T15.setTop (mkF m 50 #[.val (.int p1), .val (.int (p1 &&& (255 : Int32))), .val (.int (1 : Int32))] [(.int (1 : Int32))])) (fun _ k => XS.iconst X15.here hx rfl (hb hby at_49) k) ?_
              refine Go.via (S' := T15.setTop (mkF m 54 #[.val (.int p1), .val (.int (p1 &&& (255 : Int32))), .val (.int (1 : Int32))] [(.int (1 : Int32))])) (fun _ k => XS.goto X15.here hx rfl (pc0 := 50) (pc' := 54) rfl (hb hby at_50) (by decide) (by decide) k) ?_
              exact Go.retB X15 hx (BodyLoose.notSynchronized Bd) Bd.returns (hb hby at_54) rfl (by rw [e15]; exact ⟨rfl, N16⟩) (by decide) (by decide)
            · refine Go.via (S' := T15.setTop (mkF m 46 #[.val (.int p1), .val (.int (p1 &&& (255 : Int32))), .val (.int (1 : Int32))] [(.int (1 : Int32)), (.int (0 : Int32))])) (fun _ k => XS.iloadN X15.here hx rfl (hb hby at_45) rfl k) ?_
              refine Go.via (S' := T15.setTop (mkF m 53 #[.val (.int p1), .val (.int (p1 &&& (255 : Int32))), .val (.int (1 : Int32))] [])) (fun _ k => XS.icmpYes X15.here hx rfl (pc0 := 46) (pc' := 53) rfl (hb hby at_46) rfl (feq (by decide)).2 (by decide) (by decide) k) ?_
              exfalso
              have hm := c_mask p1 255 8 (by decide) (by decide)
              unfold own_R at hR
              simp only [Int32.lt_iff_toInt_lt, ← Int32.toInt_inj, Int32.reduceToInt] at hc8 hc14 hc20 hc26 hc32
              omega
    · refine Go.via (S' := s₁.setTop (mkF m 35 #[.val (.int p1), .val (.int (p1 &&& (255 : Int32))), .unset] [])) (fun _ k => XS.icmpYes X0.here hx rfl (pc0 := 14) (pc' := 35) rfl (hb hby at_14) rfl (flt hc14).2.2.2 (by decide) (by decide) k) ?_
      refine Go.via (S' := s₁.setTop (mkF m 36 #[.val (.int p1), .val (.int (p1 &&& (255 : Int32))), .unset] [(.int (1 : Int32))])) (fun _ k => XS.iconst X0.here hx rfl (hb hby at_35) k) ?_
      refine Go.via (S' := s₁.setTop (mkF m 40 #[.val (.int p1), .val (.int (p1 &&& (255 : Int32))), .unset] [(.int (1 : Int32))])) (fun _ k => XS.goto X0.here hx rfl (pc0 := 36) (pc' := 40) rfl (hb hby at_36) (by decide) (by decide) k) ?_
      refine Go.via (S' := s₁.setTop (mkF m 41 #[.val (.int p1), .val (.int (p1 &&& (255 : Int32))), .val (.int (1 : Int32))] [])) (fun _ k => XS.istoreN X0.here hx rfl (hb hby at_40) rfl (l' := #[.val (.int p1), .val (.int (p1 &&& (255 : Int32))), .val (.int (1 : Int32))]) rfl k) ?_
      refine Go.via (S' := s₁.setTop (mkF m 42 #[.val (.int p1), .val (.int (p1 &&& (255 : Int32))), .val (.int (1 : Int32))] [(.int (p1 &&& (255 : Int32)))])) (fun _ k => XS.iloadN X0.here hx rfl (hb hby at_41) rfl k) ?_
      obtain ⟨_, _, ⟨T17, L17, k17, n17⟩, -, X17, ⟨Lc17, hQ17, l17, y17, z17⟩, st17⟩ := Jvm.LawKit.callS X0 hx (y := (⟨"com/example/assayline/assayline/Frame", "restricted", "(I)Z"⟩ : MethodName)) hown (mvT hZ (hw _ (List.mem_of_getElem? (i := 0) rfl))) (mvT hZ (hw _ (List.mem_of_getElem? (i := 1) rfl))) (mvT hZ (hw _ (List.mem_of_getElem? (i := 2) rfl))) (mvT hZ (hw _ (List.mem_of_getElem? (i := 3) rfl))) (by decide) (backOf (W := 0) (rm1 l Z a0 hw [] (p1 &&& (255 : Int32)) h0 n0 Z0) hZ (hw _ (List.mem_of_getElem? (i := 3) rfl)) (hw _ (List.mem_of_getElem? (i := 2) rfl)) (by decide) (by decide)) (g := (mkF m 42 #[.val (.int p1), .val (.int (p1 &&& (255 : Int32))), .val (.int (1 : Int32))] [(.int (p1 &&& (255 : Int32)))])) rfl (by rw [hml]; rfl) (argsL := [(.int (p1 &&& (255 : Int32)))]) (rest := []) (lenOf pd_0 rfl) rfl (by show 2 * 0 + _ ≤ _; exact Nat.le_of_eq rfl) (hb hby at_42) (fun _ _ => ⟨rfl, e0, (by decide : 0 + 0 ≤ _), (by decide : 0 + 0 ≤ _)⟩)
      dsimp only [Pt.U, Pt.locs, Pt.cells, Pt.slots] at X17 l17 y17 z17 st17 hQ17
      subst l17 y17 z17
      obtain ⟨r17, rfl, N17q, e17, hr17⟩ := hQ17
      have N18 := Fr.app N0 N17q
      refine Go.via (S' := T17.setTop (mkF m 45 #[.val (.int p1), .val (.int (p1 &&& (255 : Int32))), .val (.int (1 : Int32))] [(.int r17)])) (fun _ k => st17 _ k) ?_
      rcases hr17 with ⟨rfl, hR⟩ | ⟨rfl, hR⟩
      · refine Go.via (S' := T17.setTop (mkF m 46 #[.val (.int p1), .val (.int (p1 &&& (255 : Int32))), .val (.int (1 : Int32))] [(.int (1 : Int32)), (.int (1 : Int32))])) (fun _ k => XS.iloadN X17.here hx rfl (hb hby at_45) rfl k) ?_
        refine Go.via (S' := T17.setTop (mkF m 49 #[.val (.int p1), .val (.int (p1 &&& (255 : Int32))), .val (.int (1 : Int32))] [])) (fun _ k => XS.icmpNo X17.here hx rfl (hb hby at_46) rfl (teq (by decide)).2 k) ?_
        refine Go.via (S' := T17.setTop (mkF m 50 #[.val (.int p1), .val (.int (p1 &&& (255 : Int32))), .val (.int (1 : Int32))] [(.int (1 : Int32))])) (fun _ k => XS.iconst X17.here hx rfl (hb hby at_49) k) ?_
        refine Go.via (S' := T17.setTop (mkF m 54 #[.val (.int p1), .val (.int (p1 &&& (255 : Int32))), .val (.int (1 : Int32))] [(.int (1 : Int32))])) (fun _ k => XS.goto X17.here hx rfl (pc0 := 50) (pc' := 54) rfl (hb hby at_50) (by decide) (by decide) k) ?_
        exact Go.retB X17 hx (BodyLoose.notSynchronized Bd) Bd.returns (hb hby at_54) rfl (by rw [e17]; exact ⟨rfl, N18⟩) (by decide) (by decide)
      · refine Go.via (S' := T17.setTop (mkF m 46 #[.val (.int p1), .val (.int (p1 &&& (255 : Int32))), .val (.int (1 : Int32))] [(.int (1 : Int32)), (.int (0 : Int32))])) (fun _ k => XS.iloadN X17.here hx rfl (hb hby at_45) rfl k) ?_
        refine Go.via (S' := T17.setTop (mkF m 53 #[.val (.int p1), .val (.int (p1 &&& (255 : Int32))), .val (.int (1 : Int32))] [])) (fun _ k => XS.icmpYes X17.here hx rfl (pc0 := 46) (pc' := 53) rfl (hb hby at_46) rfl (feq (by decide)).2 (by decide) (by decide) k) ?_
        exfalso
        have hm := c_mask p1 255 8 (by decide) (by decide)
        unfold own_R at hR
        simp only [Int32.lt_iff_toInt_lt, ← Int32.toInt_inj, Int32.reduceToInt] at hc8 hc14
        omega
set_option maxRecDepth 65536 in
set_option maxHeartbeats 40000000 in
theorem comes_1 {Post : Tables → Env → Array Value → State → Outcome → State → Prop} (hpost : ∀ tb e args s v u, (limb_1_1.after args s (.returned v) u = true ∧ limb_1_2.after args s (.returned v) u = true ∧ True) → FrameEnd s (.returned v) u (Jvm.fieldLocs frame_1_writes args s ++ Jvm.arrayLocs frame_1_arrays args s ++ Jvm.staticLocs frame_1_statics s) 0 0 → Post tb e args s (.returned v) u) :
    ArmFor flags0 classFile x code maxLocals ret World_1 tables_1 room_1 Calls_1 rest_1 Pre_1 Post := by
  intro l hfl _ _ p e ha hc hk s m args below hf hA hF happ hP
  obtain ⟨hcalls, hrest, hpre⟩ := hP
  obtain ⟨-, -, -, hnamed, -, -, -, hat⟩ := (Spec.applies_iff hf).mp happ
  obtain ⟨hg, hn⟩ := and_e (Cond.before_iff.mp (show (Jvm.Cond.and given_1 narrow_1).before args s = true from hpre))
  obtain ⟨gg0, hg0⟩ := and_e hg
  obtain ⟨w0, rfl⟩ : ∃ w0 : Value, args = #[w0] := by
    have hs : args.size = 1 := by simpa [Cond.value, given_1] using gg0
    obtain ⟨L⟩ := args
    match L, hs with
    | [w0], _ => exact ⟨w0, rfl⟩
  have hw := fun d (hd : d ∈ tables_1) => atoms_spec (ws := Jvm.Cond.code x code maxLocals ret :: tables_1) hat d (List.mem_cons_of_mem _ hd)
  have hfit : Fit s := fun {y c} hc i hi => by
    obtain ⟨ha, rfl⟩ := Array.getElem?_eq_some_iff.mp hc
    have q := List.all_eq_true.mp ((Array.all_eq_true_iff_forall_mem.mp hF) _ (Array.getElem_mem ha)) i (List.mem_range.mpr hi)
    simpa [Array.getElem?_eq_getElem hi] using q
  obtain ⟨i0, ei0⟩ := is_v hg0
  obtain rfl : w0 = (.int i0) := Option.some.inj ei0
  obtain ⟨n, o, h1, h2, h3, _, L, rfl, ⟨rfl, N⟩, hq⟩ := rm0 l s _ hw tables_1 i0 s.heap s.heap.size (Nat.le_refl _) p e ha hc hk s m _ below hf ((Spec.applies_iff_loose hf).mp happ).1 ⟨rfl, State.Warmed39.refl s, rfl⟩ trivial
  refine ⟨n, _, h1, h2, h3, hpost _ _ _ _ _ _ ⟨Cond.after_iff.mpr rfl, Cond.after_iff.mpr (eq_i res_at (Term.int_eval (1)) rfl), trivial⟩ ⟨hq.1, hq.2.1, (hq.2.2.sift fun y hy => Or.inr (N y hy)).mono (by decide) (by decide)⟩⟩
theorem main_1_1 : Claimed_1_1 := comes_1 fun _ _ _ _ _ _ h hF => ⟨h.1, hF⟩
theorem main_1_2 : Claimed_1_2 := comes_1 fun _ _ _ _ _ _ h hF => ⟨h.2.1, hF⟩
end Jvm.Pilot.@@N@@
namespace Jvm.Pilot.@@N@@
open Jvm Jvm.ClassFile Sem Op Lib Jvm.Free Jvm.Stand Jvm.Pilot.@@N@@.Jvm.D
/-! MADE BY PROGRAM (witnessworld.py) out of the Statement's table words and the real class files: 7 classes; the members and pool entries that the words name. The judged class is class 1, her method 1. -/
namespace start1
open Jvm.ClassFile
def u (s : String) : CpInfo := .utf8 (stringToUtf16 s)
/-- a pool by its gaps: so many unusable entries, then the entry; so many at the end -/
def gap : Nat → List CpInfo → List CpInfo
  | 0, r => r
  | n + 1, r => .unusable :: gap n r
def poolList (es : List (Nat × CpInfo)) (last : Nat) : List CpInfo := es.foldr (fun e r => gap e.1 (e.2 :: r)) (gap last [])
def pool (es : List (Nat × CpInfo)) (last : Nat) : Array CpInfo := ⟨poolList es last⟩
def fileOf (pool : Array CpInfo) (this : Nat) (attrs : Array Attribute := #[]) (ms : Array MethodInfo := #[]) (fl : Nat := 33) (sup : Nat := 0) (ifs : Array Nat := #[]) (fds : Array FieldInfo := #[]) : ClassFile where
  minorVersion := 0
  majorVersion := 65
  constantPool := pool
  accessFlags := fl
  thisClass := this
  superClass := sup
  interfaces := ifs
  fields := fds
  methods := ms
  attributes := attrs
def plain (name : String) (sup : Option ClassId) : Class where
  name := name
  kind := .ordinary
  loader := none
  accessFlags := 33
  super := sup
  interfaces := #[]
  cf := none
  fields := #[]
  methods := #[]
  instanceTypes := #[]
  staticTypes := #[]
  resolved := #[]
  callSites := []
  init := .initialized
  statics := none
  mirror := none

def pool0 : Array CpInfo := pool [(5, u "<init>"), (0, u "()V"), (1, .class_ 10), (1, u "java/lang/Object")] 113

def k0m0 : Method := { name := "<init>", desc := "()V", sig := { parameters := [], returnType := none }, accessFlags := 1, code := none }
/-- java/lang/Object -/
def k0 : Class := { plain "java/lang/Object" none with
  accessFlags := 33
  interfaces := #[]
  cf := some (fileOf pool0 8 #[] #[{ accessFlags := 1, nameIndex := 5, descriptorIndex := 6, attributes := #[] }] 33 0 #[] #[])
  fields := #[]
  methods := #[k0m0]
  instanceTypes := #[]
  staticTypes := #[]
  resolved := Array.replicate 124 none
  statics := none }

def pool1 : Array CpInfo := pool [(2, .class_ 4), (1, u "java/lang/Object"), (0, u "<init>"), (0, u "()V"), (0, .methodref 8 9), (0, .class_ 10), (0, .nameAndType 11 12), (0, u "com/example/assayline/assayline/Frame"), (0, u "restricted"), (0, u "(I)Z"), (0, .class_ 14), (0, u "com/example/assayline/assayline/FrameRestrictedPinLaw"), (2, u "law")] 3

def k1m0 : Method := { name := "<init>", desc := "()V", sig := { parameters := [], returnType := none }, accessFlags := 2, code := none }
def k1c1 : Code := { maxStack := 2, maxLocals := 3, code := code, exceptionTable := #[], attributes := #[] }
def k1m1 : Method := { name := "law", desc := "(I)Z", sig := { parameters := [.int], returnType := some .boolean }, accessFlags := 9, code := some k1c1 }
/-- com/example/assayline/assayline/FrameRestrictedPinLaw -/
def k1 : Class := { plain "com/example/assayline/assayline/FrameRestrictedPinLaw" (some 0) with
  accessFlags := 49
  interfaces := #[]
  cf := some (fileOf pool1 13 #[] #[{ accessFlags := 2, nameIndex := 5, descriptorIndex := 6, attributes := #[] }, { accessFlags := 9, nameIndex := 17, descriptorIndex := 12, attributes := #[] }] 49 2 #[] #[])
  fields := #[]
  methods := #[k1m0, k1m1]
  instanceTypes := #[]
  staticTypes := #[]
  resolved := Array.replicate 21 none
  statics := none }

def pool2 : Array CpInfo := pool [(1, .class_ 2), (0, u "com/example/assayline/assayline/Frame"), (5, .class_ 10), (1, u "java/lang/Object"), (20, u "bytes"), (0, u "[B"), (59, u "restricted"), (0, u "(I)Z"), (2, u "HEX_DIGITS"), (12, u "MAX_LENGTH"), (0, u "I"), (1, u "OVERHEAD"), (1, u "MAX_TEXT"), (0, u "FIRST_NUMBER")] 44

def k2c0 : Code := { maxStack := 1, maxLocals := 1, code := prog_34_method_14_code, exceptionTable := #[], attributes := #[] }
def k2m0 : Method := { name := "restricted", desc := "(I)Z", sig := { parameters := [.int], returnType := some .boolean }, accessFlags := 8, code := some k2c0 }
/-- com/example/assayline/assayline/Frame -/
def k2 : Class := { plain "com/example/assayline/assayline/Frame" (some 0) with
  accessFlags := 48
  interfaces := #[]
  cf := some (fileOf pool2 1 #[] #[{ accessFlags := 8, nameIndex := 92, descriptorIndex := 93, attributes := #[] }] 48 8 #[] #[{ accessFlags := 24, nameIndex := 109, descriptorIndex := 110, attributes := #[] }, { accessFlags := 26, nameIndex := 112, descriptorIndex := 110, attributes := #[] }, { accessFlags := 24, nameIndex := 114, descriptorIndex := 110, attributes := #[] }, { accessFlags := 24, nameIndex := 115, descriptorIndex := 110, attributes := #[] }, { accessFlags := 26, nameIndex := 96, descriptorIndex := 32, attributes := #[] }, { accessFlags := 18, nameIndex := 31, descriptorIndex := 32, attributes := #[] }])
  fields := #[{ name := "MAX_LENGTH", type := .int, accessFlags := 24, slot := 0, constantValue := 0 }, { name := "OVERHEAD", type := .int, accessFlags := 26, slot := 1, constantValue := 0 }, { name := "MAX_TEXT", type := .int, accessFlags := 24, slot := 2, constantValue := 0 }, { name := "FIRST_NUMBER", type := .int, accessFlags := 24, slot := 3, constantValue := 0 }, { name := "HEX_DIGITS", type := (.array .byte), accessFlags := 26, slot := 4, constantValue := 0 }, { name := "bytes", type := (.array .byte), accessFlags := 18, slot := 0, constantValue := 0 }]
  methods := #[k2m0]
  instanceTypes := #[(.array .byte)]
  staticTypes := #[.int, .int, .int, .int, (.array .byte)]
  resolved := Array.replicate 160 none
  statics := none }

def pool3 : Array CpInfo := pool [(1, u "java/lang/Cloneable"), (0, .class_ 1), (0, u "java/lang/Object"), (0, .class_ 3)] 3

/-- java/lang/Cloneable -/
def k3 : Class := { plain "java/lang/Cloneable" (some 0) with
  accessFlags := 1537
  interfaces := #[]
  cf := some (fileOf pool3 2 #[] #[] 1537 4 #[] #[])
  fields := #[]
  methods := #[]
  instanceTypes := #[]
  staticTypes := #[]
  resolved := Array.replicate 8 none
  statics := none }

def pool4 : Array CpInfo := pool [(1, u "java/io/Serializable"), (0, .class_ 1), (0, u "java/lang/Object"), (0, .class_ 3)] 3

/-- java/io/Serializable -/
def k4 : Class := { plain "java/io/Serializable" (some 0) with
  accessFlags := 1537
  interfaces := #[]
  cf := some (fileOf pool4 2 #[] #[] 1537 4 #[] #[])
  fields := #[]
  methods := #[]
  instanceTypes := #[]
  staticTypes := #[]
  resolved := Array.replicate 8 none
  statics := none }

/-- the primitive byte -/
def k5 : Class := { plain "byte" none with kind := .primitive 'B', accessFlags := 0x411 }
/-- [B -/
def k6 : Class := { plain "[B" (some 0) with kind := .array 5 .byte, interfaces := #[3, 4], accessFlags := 1041 }

def heap : Heap := #[]
def classes : Array Class := #[k0, k1, k2, k3, k4, k5, k6]
def interned : List (Array UInt16 × Addr) := []
def slotsUsed : Nat := 0
def theMethod : MethodId := ⟨1, 1⟩
def args0 : Array Value := #[.int 5]
def aboutOver (below : List Frame) : State where
  vm := { classes := classes, interned := interned.toArray }
  heap := heap
  slotsUsed := slotsUsed
  threads := #[{ frames := .invoking theMethod args0 :: below }]
def below0 : List Frame := [.native { method := ⟨0, 0⟩, args := #[] }]
def about1 : State := aboutOver below0
def p0 : Program := .bare "" "" ""
def e0 : Env := launch0.env 0 0 0
theorem w_frames : about1.frames = Frame.invoking theMethod args0 :: below0 := rfl
set_option maxRecDepth 65536 in
theorem w_args : argsFit about1.vm theMethod args0 = true := by decide +kernel
set_option maxRecDepth 65536 in
theorem w_heap : heapFits about1 = true := by decide +kernel
set_option maxRecDepth 65536 in
theorem w_runnable : about1.curStatus? = some .runnable := by decide +kernel
set_option maxRecDepth 65536 in
theorem w_alone : about1.alone = true := by decide +kernel
set_option maxRecDepth 65536 in
theorem w_named : about1.methodNamed? x = some theMethod := by decide +kernel
set_option maxRecDepth 65536 in
theorem w_hears : about1.hears theMethod below0 = true := by decide +kernel
set_option maxRecDepth 65536 in
theorem w_ripe : about1.ripe theMethod args0 below0 = true := by decide +kernel
theorem w_running : about1.status = .running := rfl
set_option maxRecDepth 65536 in
theorem w_room : about1.hasRoom e0.platform room_1 = true :=
  launch0.hasRoom_least _ room_1 (by decide +kernel) (by decide +kernel) (by decide +kernel) (by decide +kernel) (by decide +kernel) (by decide +kernel)
theorem allAtoms_all (ts : List Jvm.Cond) (a : Array Jvm.Value) (st : Jvm.State) : (allAtoms ts).before a st = ts.all (fun c => c.before a st) := by
  induction ts with
  | nil => rfl
  | cons c t ih =>
    show (Jvm.Cond.and c (allAtoms t)).before a st = _
    rw [Jvm.Cond.before_and, ih, List.all_cons]
def words1 : List Jvm.Cond := Jvm.Cond.code x code maxLocals ret :: tables_1
/-- a 'code' word, met by the world's own term for the bytes: nothing is compared byte by byte -/
theorem code_word {y : MethodName} {bytes : ByteArray} {mx : Nat} {rt : Option FieldType} {a : Array Value} {s : State} {m : MethodId} {meth : Method} {c : Code} (h1 : s.methodNamed? y = some m) (h2 : s.vm.method? m = some meth) (h3 : meth.code = some c) (h4 : c.code = bytes)
    (h5 : (c.maxLocals == mx && c.exceptionTable.isEmpty && decide (c.maxStack ≤ mostOperands) && decide (meth.sig.returnType = rt) && !meth.locks && decide (parseMethodDescriptor y.desc = some meth.sig)) = true) : (Jvm.Cond.code y bytes mx rt).before a s = true := by
  simp only [Bool.and_eq_true, beq_iff_eq, Bool.not_eq_true', decide_eq_true_eq] at h5
  obtain ⟨⟨⟨⟨⟨g1, g2⟩, g3⟩, g4⟩, g5⟩, g6⟩ := h5
  simp [Cond.before, Cond.holds, Cond.value, h1, h2, h3, h4, g1, g2, g3, g4, g5, g6]
def isCode : Jvm.Cond → Bool
  | .code _ _ _ _ => true
  | _ => false
theorem all_split {L : List Jvm.Cond} {P : Jvm.Cond → Bool} (h1 : L.all (fun c => isCode c || P c) = true) (h2 : ∀ c ∈ L.filter isCode, P c = true) : L.all P = true := by
  refine List.all_eq_true.mpr fun c hc => ?_
  have h := List.all_eq_true.mp h1 c hc
  rcases Bool.eq_false_or_eq_true (isCode c) with hi | hi
  · exact h2 c (List.mem_filter.mpr ⟨hc, hi⟩)
  · simpa [hi] using h
set_option maxRecDepth 65536 in
theorem w_c0 : (Jvm.Cond.code x code maxLocals ret).before args0 about1 = true := code_word (m := ⟨1, 1⟩) (meth := k1m1) (c := k1c1) (by decide +kernel) rfl rfl rfl (by decide +kernel)
set_option maxRecDepth 65536 in
theorem w_c1 : (Jvm.Cond.code ({ cls := "com/example/assayline/assayline/Frame", name := "restricted", desc := "(I)Z" } : Jvm.MethodName) prog_34_method_14_code (1 : Nat) (Option.some Jvm.ClassFile.FieldType.boolean)).before args0 about1 = true := code_word (m := ⟨2, 0⟩) (meth := k2m0) (c := k2c0) (by decide +kernel) rfl rfl rfl (by decide +kernel)
def codes1 : List Jvm.Cond := [Jvm.Cond.code x code maxLocals ret, Jvm.Cond.code ({ cls := "com/example/assayline/assayline/Frame", name := "restricted", desc := "(I)Z" } : Jvm.MethodName) prog_34_method_14_code (1 : Nat) (Option.some Jvm.ClassFile.FieldType.boolean)]
set_option maxRecDepth 65536 in
theorem codes_eq : words1.filter isCode = codes1 := rfl
theorem w_codes : ∀ c ∈ words1.filter isCode, c.before args0 about1 = true := by
  rw [codes_eq]
  intro c hc
  simp only [codes1, List.mem_cons, List.not_mem_nil, or_false] at hc
  rcases hc with rfl | rfl
  · exact w_c0
  · exact w_c1
set_option maxRecDepth 65536 in
theorem w_t1 : words1.all (fun c => isCode c || c.before args0 about1) = true := by decide +kernel
theorem w_tables : (allAtoms (Jvm.Cond.code x code maxLocals ret :: tables_1)).before args0 about1 = true := by
  rw [allAtoms_all]
  show words1.all (fun c => c.before args0 about1) = true
  refine all_split ?_ w_codes
  rw [w_t1]
set_option maxRecDepth 65536 in
theorem w_case : (Jvm.Cond.and given_1 narrow_1).before args0 about1 = true := by decide +kernel
theorem w_applies : (headSpec (Jvm.Cond.code x code maxLocals ret :: tables_1) room_1).applies x e0.platform about1 = true :=
  (Spec.applies_iff w_frames).mpr ⟨w_running, w_runnable, w_alone, w_named, w_hears, w_ripe, w_room, w_tables⟩
theorem atStart : AtStart classFile x code maxLocals ret World_1 tables_1 room_1 Calls_1 rest_1 Pre_1 launch0 p0 e0 about1 theMethod args0 below0 :=
  ⟨lists_1, trivial, launch0.admits_env _ _ _, launch0.least_env, fairChoices_fair.cas, fairChoices_fair.clock, w_frames, w_args, w_heap, w_applies, trivial, trivial, w_case⟩
end start1
theorem witness_1 : WitnessClaimed_1 := ⟨start1.p0, start1.e0, start1.about1, start1.theMethod, start1.args0, start1.below0, start1.atStart⟩
end Jvm.Pilot.@@N@@
