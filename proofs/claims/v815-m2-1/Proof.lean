import JvmDerived
import JvmDerived.Pilot.@@N@@Statement
import JvmDerived.Pilot.@@N@@Code
set_option linter.unusedVariables false
set_option linter.unusedSimpArgs false
namespace Jvm.RoadKit
open Sem ClassFile Op Lib Jvm.Stand Jvm.Free Jvm.LawKit
section New
variable {p : Program} {l : Launch} {e : Env} {R : Room} {s : State} {m : MethodId} {args : Array Value} {below : List Frame} {meth : Method} {c : Code} {T : State} {locs : List Loc} {cells slots : Nat}
theorem retI (X : Stand p l e R s m args below meth c T locs cells slots) (hx : p.tables.exec = Jvm.exec) {pc : Nat} {Ls : Array Slot} {z : Int32} {rest : List Value} (hret : meth.sig.returnType = some .int) (hd : decode c.code pc = .ok (.ireturn, 1)) {fs : List Frame}
    (hl : ∀ (f : JFrame) (acts : List Action), f.method = m → f.locked = none → f.entered = [] → (doReturn e (T.setTop f) acts (some (.int z))).1 = T.setFrames fs) : Steps p.tables e below (T.setTop (mkF m pc Ls (.int z :: rest))) (T.setFrames fs) := by
  have hm' : T.vm.method? m = some meth := X.method'
  have hn : narrow .int (.int z) = .int z := rfl
  show Steps p.tables e below (T.setTop { method := m, pc := pc, locals := Ls, stack := _ :: rest, locked := none }) _
  jvm_step X.here [X.here.top, hx, hd, hm', hret, hn]
  first | (intro acts; rw [hl _ acts rfl rfl rfl]) | rw [hl _ _ rfl rfl rfl]
  exact Steps.refl _
end New
end Jvm.RoadKit
namespace Jvm.Pilot.@@N@@
open Jvm Jvm.ClassFile Sem Op Lib Jvm.Free Jvm.Stand Jvm.LawKit Jvm.RoadKit Bundle Jvm.Pilot.@@N@@.Jvm.D
/-- from Y the run comes to an end of which Q tells -/
def own_G (FE : State → Outcome → State → List Loc → Nat → Nat → Prop) (p : Program) (e : Env) (below : List Frame) (s : State) (C S : Nat) (Q : Option Value → Heap → List Loc → Prop) (Y : State) : Prop :=
  ∃ s₂ o, Steps p.tables e below Y s₂ ∧ s₂.status = .running ∧ Ended s₂ below o ∧ ∃ v L, o = .returned v ∧ Q v s₂.heap L ∧ FE s o s₂ L C S
theorem own_go {FE : State → Outcome → State → List Loc → Nat → Nat → Prop} {p : Program} {e : Env} {below : List Frame} {s : State} {C S : Nat} {Q : Option Value → Heap → List Loc → Prop} {Y Y' : State} (k : own_G FE p e below s C S Q Y') (h : ∀ target, Steps p.tables e below Y' target → Steps p.tables e below Y target) : own_G FE p e below s C S Q Y :=
  let ⟨s₂, o, h1, r⟩ := k; ⟨s₂, o, h _ h1, r⟩
theorem d1_0 : decode method_3_code 0 = .ok (.iload_n 0, 1) := by decide +kernel
theorem d1_1 : decode method_3_code 1 = .ok (.ifCond .ne 7, 3) := by decide +kernel
theorem d1_4 : decode method_3_code 4 = .ok (.getstatic 20, 3) := by decide +kernel
theorem d1_7 : decode method_3_code 7 = .ok (.areturn, 1) := by decide +kernel
theorem pn_1 : plainName "com/example/meerkat/meerkat/ObjectKindNamesPinLaw" = true := by first | (simp [plainName, overriddenIn]; done) | decide +kernel
theorem ef_1 (m : MethodId) (x0 : Int32) : entryFrame m #[(.int x0)] 1 = mkF m 0 #[iv x0] [] := by first | (simp [entryFrame, mkF, argsToLocals, Value.category]; done) | rfl
def Q_rm1_0 (Z : State) (wD : Addr) (h0 : Heap) (n0 : Nat) : Option Value → Heap → List Loc → Prop := fun v h L => v = some (.ref wD) ∧ Fr n0 L ∧ h = h0
set_option maxRecDepth 65536 in
set_option maxHeartbeats 40000000 in
theorem rm1_0 (l : Launch) (Z : State) (a0 : Array Value) (hw : ∀ d ∈ tables_1, d.before a0 Z = true) (ws : List Jvm.Cond) (wD : Addr) (h0 : Heap) (n0 : Nat) (Z0 : n0 ≤ h0.size) (S_DATABASE : Sta Z h0 "com/example/meerkat/meerkat/ObjectKind" "DATABASE" "Lcom/example/meerkat/meerkat/ObjectKind;" (.ref wD)) :
    MetFree l (⟨"com/example/meerkat/meerkat/ObjectKindNamesPinLaw", "kind", "(I)Lcom/example/meerkat/meerkat/ObjectKind;"⟩ : MethodName) (head1 (Jvm.Cond.code (⟨"com/example/meerkat/meerkat/ObjectKindNamesPinLaw", "kind", "(I)Lcom/example/meerkat/meerkat/ObjectKind;"⟩ : MethodName) method_3_code 1 (some (.object "com/example/meerkat/meerkat/ObjectKind")) :: ws) ({ frames := 0, cells := 0, slots := 0, locals := 0 } : Room)) (fun a U => a = #[(.int (0 : Int32))] ∧ Z.Warmed39 U.vm ∧ U.heap = h0) (fun _ _ _ _ _ => True) (fun _ U o U' => ∃ v L, o = .returned v ∧ (Q_rm1_0 Z wD h0 n0) v U'.heap L ∧ FrameEnd U o U' L ({ frames := 0, cells := 0, slots := 0, locals := 0 } : Room).cells ({ frames := 0, cells := 0, slots := 0, locals := 0 } : Room).slots) := by
  refine MetFree.of_bodySF (plainFor_of_name pn_1) hisR ?_
  intro p e s m args below meth c s₁ Bd hml0 hP hK
  obtain ⟨rfl, hZ, hh⟩ := hP
  have hx := Bd.exec
  have hby := Bd.bytes
  have hml : c.maxLocals = 1 := hml0
  have hown : s.vm.findClass "com/example/meerkat/meerkat/ObjectKindNamesPinLaw" = some m.cls := findClass_of_methodNamed Bd.named
  have hnm := (name_of_methodNamed Bd.named Bd.method).1
  have X0 : Stand p l e ({ frames := 0, cells := 0, slots := 0, locals := 0 } : Room) s m #[(.int (0 : Int32))] below meth c s₁ [] 0 0 := Stand.of_body Bd
  have e0 : s₁.heap = h0 := by rw [← hh, Bd.state]; rfl
  have N0 := Fr.nil n0
  show own_G FrameEnd p e below s ({ frames := 0, cells := 0, slots := 0, locals := 0 } : Room).cells ({ frames := 0, cells := 0, slots := 0, locals := 0 } : Room).slots (Q_rm1_0 Z wD h0 n0) (s₁.setTop (entryFrame m #[(.int (0 : Int32))] 1))
  refine own_go (Y' := s₁.setTop (mkF m 0 #[iv (0 : Int32)] [])) ?_ (fun t k => castTop (ef_1 m (0 : Int32)) k)
  refine own_go ?_ (fun target hr => XS.iloadN X0.here hx rfl (hb hby d1_0) rfl (XS.ifNo X0.here hx rfl (hb hby d1_1) rfl ((if0 _ _).trans (teq (by decide : (0 : Int32) = (0 : Int32))).2) hr))
  show own_G _ p e below s _ _ _ (s₁.setTop (mkF m 4 #[iv (0 : Int32)] []))
  obtain ⟨T1, X1, e1, st1⟩ := getS2 X0 hx hZ hown (host := "") (Or.inl (hw _ (List.mem_of_getElem? (i := 4) rfl))) Via.refl e0 S_DATABASE (g := (mkF m 4 #[iv (0 : Int32)] [])) rfl (hb hby d1_4)
  refine own_go ?_ (fun target hr => st1 _ hr)
  show own_G _ p e below s _ _ _ (T1.setTop (mkF m 7 #[iv (0 : Int32)] [(.ref wD)]))
  obtain ⟨fs, hr, hrun, hended, hW, hsame⟩ := X1.leave (v := some (.ref wD)) (fun h => by rw [Bd.returns] at h; cases h)
  exact ⟨_, _, retOut X1 hx Bd.returns rfl (Or.inr (Or.inr (Or.inr (Or.inr ⟨rfl, rfl, rfl⟩)))) (hb hby d1_7) hr, hrun, hended, _, _, rfl, ⟨rfl, N0, e1⟩, ⟨_, rfl⟩, hW, hsame.mono (by decide) (by decide)⟩
theorem d1_8 : decode method_3_code 8 = .ok (.iload_n 0, 1) := by decide +kernel
theorem d1_9 : decode method_3_code 9 = .ok (.iconst 1, 1) := by decide +kernel
theorem d1_10 : decode method_3_code 10 = .ok (.if_icmp .ne 7, 3) := by decide +kernel
theorem d1_13 : decode method_3_code 13 = .ok (.getstatic 24, 3) := by decide +kernel
theorem d1_16 : decode method_3_code 16 = .ok (.areturn, 1) := by decide +kernel
def Q_rm1_1 (Z : State) (wS : Addr) (h0 : Heap) (n0 : Nat) : Option Value → Heap → List Loc → Prop := fun v h L => v = some (.ref wS) ∧ Fr n0 L ∧ h = h0
set_option maxRecDepth 65536 in
set_option maxHeartbeats 40000000 in
theorem rm1_1 (l : Launch) (Z : State) (a0 : Array Value) (hw : ∀ d ∈ tables_1, d.before a0 Z = true) (ws : List Jvm.Cond) (wS : Addr) (h0 : Heap) (n0 : Nat) (Z0 : n0 ≤ h0.size) (S_SCHEMA : Sta Z h0 "com/example/meerkat/meerkat/ObjectKind" "SCHEMA" "Lcom/example/meerkat/meerkat/ObjectKind;" (.ref wS)) :
    MetFree l (⟨"com/example/meerkat/meerkat/ObjectKindNamesPinLaw", "kind", "(I)Lcom/example/meerkat/meerkat/ObjectKind;"⟩ : MethodName) (head1 (Jvm.Cond.code (⟨"com/example/meerkat/meerkat/ObjectKindNamesPinLaw", "kind", "(I)Lcom/example/meerkat/meerkat/ObjectKind;"⟩ : MethodName) method_3_code 1 (some (.object "com/example/meerkat/meerkat/ObjectKind")) :: ws) ({ frames := 0, cells := 0, slots := 0, locals := 0 } : Room)) (fun a U => a = #[(.int (1 : Int32))] ∧ Z.Warmed39 U.vm ∧ U.heap = h0) (fun _ _ _ _ _ => True) (fun _ U o U' => ∃ v L, o = .returned v ∧ (Q_rm1_1 Z wS h0 n0) v U'.heap L ∧ FrameEnd U o U' L ({ frames := 0, cells := 0, slots := 0, locals := 0 } : Room).cells ({ frames := 0, cells := 0, slots := 0, locals := 0 } : Room).slots) := by
  refine MetFree.of_bodySF (plainFor_of_name pn_1) hisR ?_
  intro p e s m args below meth c s₁ Bd hml0 hP hK
  obtain ⟨rfl, hZ, hh⟩ := hP
  have hx := Bd.exec
  have hby := Bd.bytes
  have hml : c.maxLocals = 1 := hml0
  have hown : s.vm.findClass "com/example/meerkat/meerkat/ObjectKindNamesPinLaw" = some m.cls := findClass_of_methodNamed Bd.named
  have hnm := (name_of_methodNamed Bd.named Bd.method).1
  have X0 : Stand p l e ({ frames := 0, cells := 0, slots := 0, locals := 0 } : Room) s m #[(.int (1 : Int32))] below meth c s₁ [] 0 0 := Stand.of_body Bd
  have e0 : s₁.heap = h0 := by rw [← hh, Bd.state]; rfl
  have N0 := Fr.nil n0
  show own_G FrameEnd p e below s ({ frames := 0, cells := 0, slots := 0, locals := 0 } : Room).cells ({ frames := 0, cells := 0, slots := 0, locals := 0 } : Room).slots (Q_rm1_1 Z wS h0 n0) (s₁.setTop (entryFrame m #[(.int (1 : Int32))] 1))
  refine own_go (Y' := s₁.setTop (mkF m 0 #[iv (1 : Int32)] [])) ?_ (fun t k => castTop (ef_1 m (1 : Int32)) k)
  refine own_go ?_ (fun target hr => XS.iloadN X0.here hx rfl (hb hby d1_0) rfl (XS.ifYes X0.here hx rfl (pc0 := 1) (pc' := 8) rfl (hb hby d1_1) rfl ((if0 _ _).trans (feq (by decide : ¬ ((1 : Int32) = (0 : Int32)))).2) (by decide) (by decide) (XS.iloadN X0.here hx rfl (hb hby d1_8) rfl (XS.iconst X0.here hx rfl (hb hby d1_9) (XS.icmpNo X0.here hx rfl (hb hby d1_10) rfl (teq (by decide : (1 : Int32) = (1 : Int32))).2 hr)))))
  show own_G _ p e below s _ _ _ (s₁.setTop (mkF m 13 #[iv (1 : Int32)] []))
  obtain ⟨T1, X1, e1, st1⟩ := getS2 X0 hx hZ hown (host := "") (Or.inl (hw _ (List.mem_of_getElem? (i := 18) rfl))) Via.refl e0 S_SCHEMA (g := (mkF m 13 #[iv (1 : Int32)] [])) rfl (hb hby d1_13)
  refine own_go ?_ (fun target hr => st1 _ hr)
  show own_G _ p e below s _ _ _ (T1.setTop (mkF m 16 #[iv (1 : Int32)] [(.ref wS)]))
  obtain ⟨fs, hr, hrun, hended, hW, hsame⟩ := X1.leave (v := some (.ref wS)) (fun h => by rw [Bd.returns] at h; cases h)
  exact ⟨_, _, retOut X1 hx Bd.returns rfl (Or.inr (Or.inr (Or.inr (Or.inr ⟨rfl, rfl, rfl⟩)))) (hb hby d1_16) hr, hrun, hended, _, _, rfl, ⟨rfl, N0, e1⟩, ⟨_, rfl⟩, hW, hsame.mono (by decide) (by decide)⟩
theorem d1_17 : decode method_3_code 17 = .ok (.iload_n 0, 1) := by decide +kernel
theorem d1_18 : decode method_3_code 18 = .ok (.iconst 2, 1) := by decide +kernel
theorem d1_19 : decode method_3_code 19 = .ok (.if_icmp .ne 7, 3) := by decide +kernel
theorem d1_22 : decode method_3_code 22 = .ok (.getstatic 27, 3) := by decide +kernel
theorem d1_25 : decode method_3_code 25 = .ok (.areturn, 1) := by decide +kernel
def Q_rm1_2 (Z : State) (wT : Addr) (h0 : Heap) (n0 : Nat) : Option Value → Heap → List Loc → Prop := fun v h L => v = some (.ref wT) ∧ Fr n0 L ∧ h = h0
set_option maxRecDepth 65536 in
set_option maxHeartbeats 40000000 in
theorem rm1_2 (l : Launch) (Z : State) (a0 : Array Value) (hw : ∀ d ∈ tables_1, d.before a0 Z = true) (ws : List Jvm.Cond) (wT : Addr) (h0 : Heap) (n0 : Nat) (Z0 : n0 ≤ h0.size) (S_TABLE : Sta Z h0 "com/example/meerkat/meerkat/ObjectKind" "TABLE" "Lcom/example/meerkat/meerkat/ObjectKind;" (.ref wT)) :
    MetFree l (⟨"com/example/meerkat/meerkat/ObjectKindNamesPinLaw", "kind", "(I)Lcom/example/meerkat/meerkat/ObjectKind;"⟩ : MethodName) (head1 (Jvm.Cond.code (⟨"com/example/meerkat/meerkat/ObjectKindNamesPinLaw", "kind", "(I)Lcom/example/meerkat/meerkat/ObjectKind;"⟩ : MethodName) method_3_code 1 (some (.object "com/example/meerkat/meerkat/ObjectKind")) :: ws) ({ frames := 0, cells := 0, slots := 0, locals := 0 } : Room)) (fun a U => a = #[(.int (2 : Int32))] ∧ Z.Warmed39 U.vm ∧ U.heap = h0) (fun _ _ _ _ _ => True) (fun _ U o U' => ∃ v L, o = .returned v ∧ (Q_rm1_2 Z wT h0 n0) v U'.heap L ∧ FrameEnd U o U' L ({ frames := 0, cells := 0, slots := 0, locals := 0 } : Room).cells ({ frames := 0, cells := 0, slots := 0, locals := 0 } : Room).slots) := by
  refine MetFree.of_bodySF (plainFor_of_name pn_1) hisR ?_
  intro p e s m args below meth c s₁ Bd hml0 hP hK
  obtain ⟨rfl, hZ, hh⟩ := hP
  have hx := Bd.exec
  have hby := Bd.bytes
  have hml : c.maxLocals = 1 := hml0
  have hown : s.vm.findClass "com/example/meerkat/meerkat/ObjectKindNamesPinLaw" = some m.cls := findClass_of_methodNamed Bd.named
  have hnm := (name_of_methodNamed Bd.named Bd.method).1
  have X0 : Stand p l e ({ frames := 0, cells := 0, slots := 0, locals := 0 } : Room) s m #[(.int (2 : Int32))] below meth c s₁ [] 0 0 := Stand.of_body Bd
  have e0 : s₁.heap = h0 := by rw [← hh, Bd.state]; rfl
  have N0 := Fr.nil n0
  show own_G FrameEnd p e below s ({ frames := 0, cells := 0, slots := 0, locals := 0 } : Room).cells ({ frames := 0, cells := 0, slots := 0, locals := 0 } : Room).slots (Q_rm1_2 Z wT h0 n0) (s₁.setTop (entryFrame m #[(.int (2 : Int32))] 1))
  refine own_go (Y' := s₁.setTop (mkF m 0 #[iv (2 : Int32)] [])) ?_ (fun t k => castTop (ef_1 m (2 : Int32)) k)
  refine own_go ?_ (fun target hr => XS.iloadN X0.here hx rfl (hb hby d1_0) rfl (XS.ifYes X0.here hx rfl (pc0 := 1) (pc' := 8) rfl (hb hby d1_1) rfl ((if0 _ _).trans (feq (by decide : ¬ ((2 : Int32) = (0 : Int32)))).2) (by decide) (by decide) (XS.iloadN X0.here hx rfl (hb hby d1_8) rfl (XS.iconst X0.here hx rfl (hb hby d1_9) (XS.icmpYes X0.here hx rfl (pc0 := 10) (pc' := 17) rfl (hb hby d1_10) rfl (feq (by decide : ¬ ((2 : Int32) = (1 : Int32)))).2 (by decide) (by decide) (XS.iloadN X0.here hx rfl (hb hby d1_17) rfl (XS.iconst X0.here hx rfl (hb hby d1_18) (XS.icmpNo X0.here hx rfl (hb hby d1_19) rfl (teq (by decide : (2 : Int32) = (2 : Int32))).2 hr))))))))
  show own_G _ p e below s _ _ _ (s₁.setTop (mkF m 22 #[iv (2 : Int32)] []))
  obtain ⟨T1, X1, e1, st1⟩ := getS2 X0 hx hZ hown (host := "") (Or.inl (hw _ (List.mem_of_getElem? (i := 17) rfl))) Via.refl e0 S_TABLE (g := (mkF m 22 #[iv (2 : Int32)] [])) rfl (hb hby d1_22)
  refine own_go ?_ (fun target hr => st1 _ hr)
  show own_G _ p e below s _ _ _ (T1.setTop (mkF m 25 #[iv (2 : Int32)] [(.ref wT)]))
  obtain ⟨fs, hr, hrun, hended, hW, hsame⟩ := X1.leave (v := some (.ref wT)) (fun h => by rw [Bd.returns] at h; cases h)
  exact ⟨_, _, retOut X1 hx Bd.returns rfl (Or.inr (Or.inr (Or.inr (Or.inr ⟨rfl, rfl, rfl⟩)))) (hb hby d1_25) hr, hrun, hended, _, _, rfl, ⟨rfl, N0, e1⟩, ⟨_, rfl⟩, hW, hsame.mono (by decide) (by decide)⟩
theorem d1_26 : decode method_3_code 26 = .ok (.getstatic 30, 3) := by decide +kernel
theorem d1_29 : decode method_3_code 29 = .ok (.areturn, 1) := by decide +kernel
def Q_rm1_3 (Z : State) (wV : Addr) (h0 : Heap) (n0 : Nat) : Option Value → Heap → List Loc → Prop := fun v h L => v = some (.ref wV) ∧ Fr n0 L ∧ h = h0
set_option maxRecDepth 65536 in
set_option maxHeartbeats 40000000 in
theorem rm1_3 (l : Launch) (Z : State) (a0 : Array Value) (hw : ∀ d ∈ tables_1, d.before a0 Z = true) (ws : List Jvm.Cond) (wV : Addr) (h0 : Heap) (n0 : Nat) (Z0 : n0 ≤ h0.size) (S_VIEW : Sta Z h0 "com/example/meerkat/meerkat/ObjectKind" "VIEW" "Lcom/example/meerkat/meerkat/ObjectKind;" (.ref wV)) :
    MetFree l (⟨"com/example/meerkat/meerkat/ObjectKindNamesPinLaw", "kind", "(I)Lcom/example/meerkat/meerkat/ObjectKind;"⟩ : MethodName) (head1 (Jvm.Cond.code (⟨"com/example/meerkat/meerkat/ObjectKindNamesPinLaw", "kind", "(I)Lcom/example/meerkat/meerkat/ObjectKind;"⟩ : MethodName) method_3_code 1 (some (.object "com/example/meerkat/meerkat/ObjectKind")) :: ws) ({ frames := 0, cells := 0, slots := 0, locals := 0 } : Room)) (fun a U => a = #[(.int (3 : Int32))] ∧ Z.Warmed39 U.vm ∧ U.heap = h0) (fun _ _ _ _ _ => True) (fun _ U o U' => ∃ v L, o = .returned v ∧ (Q_rm1_3 Z wV h0 n0) v U'.heap L ∧ FrameEnd U o U' L ({ frames := 0, cells := 0, slots := 0, locals := 0 } : Room).cells ({ frames := 0, cells := 0, slots := 0, locals := 0 } : Room).slots) := by
  refine MetFree.of_bodySF (plainFor_of_name pn_1) hisR ?_
  intro p e s m args below meth c s₁ Bd hml0 hP hK
  obtain ⟨rfl, hZ, hh⟩ := hP
  have hx := Bd.exec
  have hby := Bd.bytes
  have hml : c.maxLocals = 1 := hml0
  have hown : s.vm.findClass "com/example/meerkat/meerkat/ObjectKindNamesPinLaw" = some m.cls := findClass_of_methodNamed Bd.named
  have hnm := (name_of_methodNamed Bd.named Bd.method).1
  have X0 : Stand p l e ({ frames := 0, cells := 0, slots := 0, locals := 0 } : Room) s m #[(.int (3 : Int32))] below meth c s₁ [] 0 0 := Stand.of_body Bd
  have e0 : s₁.heap = h0 := by rw [← hh, Bd.state]; rfl
  have N0 := Fr.nil n0
  show own_G FrameEnd p e below s ({ frames := 0, cells := 0, slots := 0, locals := 0 } : Room).cells ({ frames := 0, cells := 0, slots := 0, locals := 0 } : Room).slots (Q_rm1_3 Z wV h0 n0) (s₁.setTop (entryFrame m #[(.int (3 : Int32))] 1))
  refine own_go (Y' := s₁.setTop (mkF m 0 #[iv (3 : Int32)] [])) ?_ (fun t k => castTop (ef_1 m (3 : Int32)) k)
  refine own_go ?_ (fun target hr => XS.iloadN X0.here hx rfl (hb hby d1_0) rfl (XS.ifYes X0.here hx rfl (pc0 := 1) (pc' := 8) rfl (hb hby d1_1) rfl ((if0 _ _).trans (feq (by decide : ¬ ((3 : Int32) = (0 : Int32)))).2) (by decide) (by decide) (XS.iloadN X0.here hx rfl (hb hby d1_8) rfl (XS.iconst X0.here hx rfl (hb hby d1_9) (XS.icmpYes X0.here hx rfl (pc0 := 10) (pc' := 17) rfl (hb hby d1_10) rfl (feq (by decide : ¬ ((3 : Int32) = (1 : Int32)))).2 (by decide) (by decide) (XS.iloadN X0.here hx rfl (hb hby d1_17) rfl (XS.iconst X0.here hx rfl (hb hby d1_18) (XS.icmpYes X0.here hx rfl (pc0 := 19) (pc' := 26) rfl (hb hby d1_19) rfl (feq (by decide : ¬ ((3 : Int32) = (2 : Int32)))).2 (by decide) (by decide) hr))))))))
  show own_G _ p e below s _ _ _ (s₁.setTop (mkF m 26 #[iv (3 : Int32)] []))
  obtain ⟨T1, X1, e1, st1⟩ := getS2 X0 hx hZ hown (host := "") (Or.inl (hw _ (List.mem_of_getElem? (i := 7) rfl))) Via.refl e0 S_VIEW (g := (mkF m 26 #[iv (3 : Int32)] [])) rfl (hb hby d1_26)
  refine own_go ?_ (fun target hr => st1 _ hr)
  show own_G _ p e below s _ _ _ (T1.setTop (mkF m 29 #[iv (3 : Int32)] [(.ref wV)]))
  obtain ⟨fs, hr, hrun, hended, hW, hsame⟩ := X1.leave (v := some (.ref wV)) (fun h => by rw [Bd.returns] at h; cases h)
  exact ⟨_, _, retOut X1 hx Bd.returns rfl (Or.inr (Or.inr (Or.inr (Or.inr ⟨rfl, rfl, rfl⟩)))) (hb hby d1_29) hr, hrun, hended, _, _, rfl, ⟨rfl, N0, e1⟩, ⟨_, rfl⟩, hW, hsame.mono (by decide) (by decide)⟩
theorem d2_0 : decode prog_9_method_7_code 0 = .ok (.aload_n 1, 1) := by decide +kernel
theorem d2_1 : decode prog_9_method_7_code 1 = .ok (.aload_n 0, 1) := by decide +kernel
theorem d2_2 : decode prog_9_method_7_code 2 = .ok (.if_acmp .eq 17, 3) := by decide +kernel
theorem d2_19 : decode prog_9_method_7_code 19 = .ok (.iconst 1, 1) := by decide +kernel
theorem d2_20 : decode prog_9_method_7_code 20 = .ok (.goto 4, 3) := by decide +kernel
theorem d2_24 : decode prog_9_method_7_code 24 = .ok (.ireturn, 1) := by decide +kernel
theorem pn_2 : plainName "com/example/meerkat/meerkat/ObjectKind" = true := by first | (simp [plainName, overriddenIn]; done) | decide +kernel
theorem ef_2 (m : MethodId) (x0 : Addr) (x1 : Addr) : entryFrame m #[(.ref x0), (.ref x1)] 2 = mkF m 0 #[rv x0, rv x1] [] := by first | (simp [entryFrame, mkF, argsToLocals, Value.category]; done) | rfl
def Q_rm2_s (Z : State) (a1 : Addr) (h0 : Heap) (n0 : Nat) : Option Value → Heap → List Loc → Prop := fun v h L => v = some (.int (1 : Int32)) ∧ Fr n0 L ∧ h = h0
set_option maxRecDepth 65536 in
set_option maxHeartbeats 40000000 in
theorem rm2_s (l : Launch) (Z : State) (a0 : Array Value) (hw : ∀ d ∈ tables_1, d.before a0 Z = true) (ws : List Jvm.Cond) (a1 : Addr) (h0 : Heap) (n0 : Nat) (Z0 : n0 ≤ h0.size) :
    MetFree l (⟨"com/example/meerkat/meerkat/ObjectKind", "names", "(Lcom/example/meerkat/meerkat/ObjectKind;)Z"⟩ : MethodName) (head1 (Jvm.Cond.code (⟨"com/example/meerkat/meerkat/ObjectKind", "names", "(Lcom/example/meerkat/meerkat/ObjectKind;)Z"⟩ : MethodName) prog_9_method_7_code 2 (some .boolean) :: ws) ({ frames := 0, cells := 0, slots := 0, locals := 0 } : Room)) (fun a U => a = #[(.ref a1), (.ref a1)] ∧ Z.Warmed39 U.vm ∧ U.heap = h0) (fun _ _ _ _ _ => True) (fun _ U o U' => ∃ v L, o = .returned v ∧ (Q_rm2_s Z a1 h0 n0) v U'.heap L ∧ FrameEnd U o U' L ({ frames := 0, cells := 0, slots := 0, locals := 0 } : Room).cells ({ frames := 0, cells := 0, slots := 0, locals := 0 } : Room).slots) := by
  refine MetFree.of_bodySF (plainFor_of_name pn_2) hisR ?_
  intro p e s m args below meth c s₁ Bd hml0 hP hK
  obtain ⟨rfl, hZ, hh⟩ := hP
  have hx := Bd.exec
  have hby := Bd.bytes
  have hml : c.maxLocals = 2 := hml0
  have hown : s.vm.findClass "com/example/meerkat/meerkat/ObjectKind" = some m.cls := findClass_of_methodNamed Bd.named
  have hnm := (name_of_methodNamed Bd.named Bd.method).1
  have X0 : Stand p l e ({ frames := 0, cells := 0, slots := 0, locals := 0 } : Room) s m #[(.ref a1), (.ref a1)] below meth c s₁ [] 0 0 := Stand.of_body Bd
  have e0 : s₁.heap = h0 := by rw [← hh, Bd.state]; rfl
  have N0 := Fr.nil n0
  show own_G FrameEnd p e below s ({ frames := 0, cells := 0, slots := 0, locals := 0 } : Room).cells ({ frames := 0, cells := 0, slots := 0, locals := 0 } : Room).slots (Q_rm2_s Z a1 h0 n0) (s₁.setTop (entryFrame m #[(.ref a1), (.ref a1)] 2))
  refine own_go (Y' := s₁.setTop (mkF m 0 #[rv a1, rv a1] [])) ?_ (fun t k => castTop (ef_2 m a1 a1) k)
  refine own_go ?_ (fun target hr => XS.aloadN X0.here hx rfl (hb hby d2_0) rfl rfl (XS.aloadN X0.here hx rfl (hb hby d2_1) rfl rfl (Jvm.RoadKit.acmp (g := (mkF m 2 #[rv a1, rv a1] [(.ref a1), (.ref a1)])) X0 hx rfl rfl rfl (pc0 := 2) (pc' := 19) (same := true) rfl (hb hby d2_2) rfl (decide_eq_true rfl) (by decide) (by decide) (XS.iconst X0.here hx rfl (hb hby d2_19) (XS.goto X0.here hx rfl (pc0 := 20) (pc' := 24) rfl (hb hby d2_20) (by decide) (by decide) hr)))))
  show own_G _ p e below s _ _ _ (s₁.setTop (mkF m 24 #[rv a1, rv a1] [(.int (1 : Int32))]))
  obtain ⟨fs, hr, hrun, hended, hW, hsame⟩ := X0.leave (v := some (.int (1 : Int32))) (fun h => by rw [Bd.returns] at h; cases h)
  exact ⟨_, _, retN X0 hx (t := .boolean) Bd.returns (by simp) (hb hby d2_24) hr, hrun, hended, _, _, rfl, ⟨rfl, N0, e0⟩, ⟨_, rfl⟩, hW, hsame.mono (by decide) (by decide)⟩
theorem d2_5 : decode prog_9_method_7_code 5 = .ok (.aload_n 0, 1) := by decide +kernel
theorem d2_6 : decode prog_9_method_7_code 6 = .ok (.getstatic 10, 3) := by decide +kernel
theorem d2_9 : decode prog_9_method_7_code 9 = .ok (.if_acmp .ne 14, 3) := by decide +kernel
theorem d2_23 : decode prog_9_method_7_code 23 = .ok (.iconst 0, 1) := by decide +kernel
def Q_rm2_n (Z : State) (a1 : Addr) (a2 : Addr) (wT : Addr) (h0 : Heap) (n0 : Nat) : Option Value → Heap → List Loc → Prop := fun v h L => v = some (.int (0 : Int32)) ∧ Fr n0 L ∧ h = h0
set_option maxRecDepth 65536 in
set_option maxHeartbeats 40000000 in
theorem rm2_n (l : Launch) (Z : State) (a0 : Array Value) (hw : ∀ d ∈ tables_1, d.before a0 Z = true) (ws : List Jvm.Cond) (a1 : Addr) (a2 : Addr) (wT : Addr) (h0 : Heap) (n0 : Nat) (Z0 : n0 ≤ h0.size) (S_TABLE : Sta Z h0 "com/example/meerkat/meerkat/ObjectKind" "TABLE" "Lcom/example/meerkat/meerkat/ObjectKind;" (.ref wT)) (n1 : ¬ (a2 = a1)) (n2 : ¬ (a1 = wT)) :
    MetFree l (⟨"com/example/meerkat/meerkat/ObjectKind", "names", "(Lcom/example/meerkat/meerkat/ObjectKind;)Z"⟩ : MethodName) (head1 (Jvm.Cond.code (⟨"com/example/meerkat/meerkat/ObjectKind", "names", "(Lcom/example/meerkat/meerkat/ObjectKind;)Z"⟩ : MethodName) prog_9_method_7_code 2 (some .boolean) :: ws) ({ frames := 0, cells := 0, slots := 0, locals := 0 } : Room)) (fun a U => a = #[(.ref a1), (.ref a2)] ∧ Z.Warmed39 U.vm ∧ U.heap = h0) (fun _ _ _ _ _ => True) (fun _ U o U' => ∃ v L, o = .returned v ∧ (Q_rm2_n Z a1 a2 wT h0 n0) v U'.heap L ∧ FrameEnd U o U' L ({ frames := 0, cells := 0, slots := 0, locals := 0 } : Room).cells ({ frames := 0, cells := 0, slots := 0, locals := 0 } : Room).slots) := by
  refine MetFree.of_bodySF (plainFor_of_name pn_2) hisR ?_
  intro p e s m args below meth c s₁ Bd hml0 hP hK
  obtain ⟨rfl, hZ, hh⟩ := hP
  have hx := Bd.exec
  have hby := Bd.bytes
  have hml : c.maxLocals = 2 := hml0
  have hown : s.vm.findClass "com/example/meerkat/meerkat/ObjectKind" = some m.cls := findClass_of_methodNamed Bd.named
  have hnm := (name_of_methodNamed Bd.named Bd.method).1
  have X0 : Stand p l e ({ frames := 0, cells := 0, slots := 0, locals := 0 } : Room) s m #[(.ref a1), (.ref a2)] below meth c s₁ [] 0 0 := Stand.of_body Bd
  have e0 : s₁.heap = h0 := by rw [← hh, Bd.state]; rfl
  have N0 := Fr.nil n0
  show own_G FrameEnd p e below s ({ frames := 0, cells := 0, slots := 0, locals := 0 } : Room).cells ({ frames := 0, cells := 0, slots := 0, locals := 0 } : Room).slots (Q_rm2_n Z a1 a2 wT h0 n0) (s₁.setTop (entryFrame m #[(.ref a1), (.ref a2)] 2))
  refine own_go (Y' := s₁.setTop (mkF m 0 #[rv a1, rv a2] [])) ?_ (fun t k => castTop (ef_2 m a1 a2) k)
  refine own_go ?_ (fun target hr => XS.aloadN X0.here hx rfl (hb hby d2_0) rfl rfl (XS.aloadN X0.here hx rfl (hb hby d2_1) rfl rfl (Jvm.RoadKit.acmp (g := (mkF m 2 #[rv a1, rv a2] [(.ref a1), (.ref a2)])) X0 hx rfl rfl rfl (pc0 := 2) (pc' := 5) (same := false) rfl (hb hby d2_2) rfl (decide_eq_false fun q => n1 (Value.ref.inj q)) (by decide) (by decide) (XS.aloadN X0.here hx rfl (hb hby d2_5) rfl rfl hr))))
  show own_G _ p e below s _ _ _ (s₁.setTop (mkF m 6 #[rv a1, rv a2] [(.ref a1)]))
  obtain ⟨T1, X1, e1, st1⟩ := getS2 X0 hx hZ hown (host := "") (Or.inl (hw _ (List.mem_of_getElem? (i := 15) rfl))) Via.refl e0 S_TABLE (g := (mkF m 6 #[rv a1, rv a2] [(.ref a1)])) rfl (hb hby d2_6)
  refine own_go ?_ (fun target hr => st1 _ (Jvm.RoadKit.acmp (g := (mkF m 9 #[rv a1, rv a2] [(.ref wT), (.ref a1)])) X1 hx rfl rfl rfl (pc0 := 9) (pc' := 23) (same := false) rfl (hb hby d2_9) rfl (decide_eq_false fun q => n2 (Value.ref.inj q)) (by decide) (by decide) (XS.iconst X1.here hx rfl (hb hby d2_23) hr)))
  show own_G _ p e below s _ _ _ (T1.setTop (mkF m 24 #[rv a1, rv a2] [(.int (0 : Int32))]))
  obtain ⟨fs, hr, hrun, hended, hW, hsame⟩ := X1.leave (v := some (.int (0 : Int32))) (fun h => by rw [Bd.returns] at h; cases h)
  exact ⟨_, _, retN X1 hx (t := .boolean) Bd.returns (by simp) (hb hby d2_24) hr, hrun, hended, _, _, rfl, ⟨rfl, N0, e1⟩, ⟨_, rfl⟩, hW, hsame.mono (by decide) (by decide)⟩
theorem d2_12 : decode prog_9_method_7_code 12 = .ok (.aload_n 1, 1) := by decide +kernel
theorem d2_13 : decode prog_9_method_7_code 13 = .ok (.getstatic 13, 3) := by decide +kernel
theorem d2_16 : decode prog_9_method_7_code 16 = .ok (.if_acmp .ne 7, 3) := by decide +kernel
def Q_rm2_tv (Z : State) (wT : Addr) (wV : Addr) (h0 : Heap) (n0 : Nat) : Option Value → Heap → List Loc → Prop := fun v h L => v = some (.int (1 : Int32)) ∧ Fr n0 L ∧ h = h0
set_option maxRecDepth 65536 in
set_option maxHeartbeats 40000000 in
theorem rm2_tv (l : Launch) (Z : State) (a0 : Array Value) (hw : ∀ d ∈ tables_1, d.before a0 Z = true) (ws : List Jvm.Cond) (wT : Addr) (wV : Addr) (h0 : Heap) (n0 : Nat) (Z0 : n0 ≤ h0.size) (S_TABLE : Sta Z h0 "com/example/meerkat/meerkat/ObjectKind" "TABLE" "Lcom/example/meerkat/meerkat/ObjectKind;" (.ref wT)) (S_VIEW : Sta Z h0 "com/example/meerkat/meerkat/ObjectKind" "VIEW" "Lcom/example/meerkat/meerkat/ObjectKind;" (.ref wV)) (n1 : ¬ (wV = wT)) :
    MetFree l (⟨"com/example/meerkat/meerkat/ObjectKind", "names", "(Lcom/example/meerkat/meerkat/ObjectKind;)Z"⟩ : MethodName) (head1 (Jvm.Cond.code (⟨"com/example/meerkat/meerkat/ObjectKind", "names", "(Lcom/example/meerkat/meerkat/ObjectKind;)Z"⟩ : MethodName) prog_9_method_7_code 2 (some .boolean) :: ws) ({ frames := 0, cells := 0, slots := 0, locals := 0 } : Room)) (fun a U => a = #[(.ref wT), (.ref wV)] ∧ Z.Warmed39 U.vm ∧ U.heap = h0) (fun _ _ _ _ _ => True) (fun _ U o U' => ∃ v L, o = .returned v ∧ (Q_rm2_tv Z wT wV h0 n0) v U'.heap L ∧ FrameEnd U o U' L ({ frames := 0, cells := 0, slots := 0, locals := 0 } : Room).cells ({ frames := 0, cells := 0, slots := 0, locals := 0 } : Room).slots) := by
  refine MetFree.of_bodySF (plainFor_of_name pn_2) hisR ?_
  intro p e s m args below meth c s₁ Bd hml0 hP hK
  obtain ⟨rfl, hZ, hh⟩ := hP
  have hx := Bd.exec
  have hby := Bd.bytes
  have hml : c.maxLocals = 2 := hml0
  have hown : s.vm.findClass "com/example/meerkat/meerkat/ObjectKind" = some m.cls := findClass_of_methodNamed Bd.named
  have hnm := (name_of_methodNamed Bd.named Bd.method).1
  have X0 : Stand p l e ({ frames := 0, cells := 0, slots := 0, locals := 0 } : Room) s m #[(.ref wT), (.ref wV)] below meth c s₁ [] 0 0 := Stand.of_body Bd
  have e0 : s₁.heap = h0 := by rw [← hh, Bd.state]; rfl
  have N0 := Fr.nil n0
  show own_G FrameEnd p e below s ({ frames := 0, cells := 0, slots := 0, locals := 0 } : Room).cells ({ frames := 0, cells := 0, slots := 0, locals := 0 } : Room).slots (Q_rm2_tv Z wT wV h0 n0) (s₁.setTop (entryFrame m #[(.ref wT), (.ref wV)] 2))
  refine own_go (Y' := s₁.setTop (mkF m 0 #[rv wT, rv wV] [])) ?_ (fun t k => castTop (ef_2 m wT wV) k)
  refine own_go ?_ (fun target hr => XS.aloadN X0.here hx rfl (hb hby d2_0) rfl rfl (XS.aloadN X0.here hx rfl (hb hby d2_1) rfl rfl (Jvm.RoadKit.acmp (g := (mkF m 2 #[rv wT, rv wV] [(.ref wT), (.ref wV)])) X0 hx rfl rfl rfl (pc0 := 2) (pc' := 5) (same := false) rfl (hb hby d2_2) rfl (decide_eq_false fun q => n1 (Value.ref.inj q)) (by decide) (by decide) (XS.aloadN X0.here hx rfl (hb hby d2_5) rfl rfl hr))))
  show own_G _ p e below s _ _ _ (s₁.setTop (mkF m 6 #[rv wT, rv wV] [(.ref wT)]))
  obtain ⟨T1, X1, e1, st1⟩ := getS2 X0 hx hZ hown (host := "") (Or.inl (hw _ (List.mem_of_getElem? (i := 15) rfl))) Via.refl e0 S_TABLE (g := (mkF m 6 #[rv wT, rv wV] [(.ref wT)])) rfl (hb hby d2_6)
  refine own_go ?_ (fun target hr => st1 _ (Jvm.RoadKit.acmp (g := (mkF m 9 #[rv wT, rv wV] [(.ref wT), (.ref wT)])) X1 hx rfl rfl rfl (pc0 := 9) (pc' := 12) (same := true) rfl (hb hby d2_9) rfl (decide_eq_true rfl) (by decide) (by decide) (XS.aloadN X1.here hx rfl (hb hby d2_12) rfl rfl hr)))
  show own_G _ p e below s _ _ _ (T1.setTop (mkF m 13 #[rv wT, rv wV] [(.ref wV)]))
  obtain ⟨T2, X2, e2, st2⟩ := getS2 X1 hx hZ hown (host := "") (Or.inl (hw _ (List.mem_of_getElem? (i := 20) rfl))) Via.refl e1 S_VIEW (g := (mkF m 13 #[rv wT, rv wV] [(.ref wV)])) rfl (hb hby d2_13)
  refine own_go ?_ (fun target hr => st2 _ (Jvm.RoadKit.acmp (g := (mkF m 16 #[rv wT, rv wV] [(.ref wV), (.ref wV)])) X2 hx rfl rfl rfl (pc0 := 16) (pc' := 19) (same := true) rfl (hb hby d2_16) rfl (decide_eq_true rfl) (by decide) (by decide) (XS.iconst X2.here hx rfl (hb hby d2_19) (XS.goto X2.here hx rfl (pc0 := 20) (pc' := 24) rfl (hb hby d2_20) (by decide) (by decide) hr))))
  show own_G _ p e below s _ _ _ (T2.setTop (mkF m 24 #[rv wT, rv wV] [(.int (1 : Int32))]))
  obtain ⟨fs, hr, hrun, hended, hW, hsame⟩ := X2.leave (v := some (.int (1 : Int32))) (fun h => by rw [Bd.returns] at h; cases h)
  exact ⟨_, _, retN X2 hx (t := .boolean) Bd.returns (by simp) (hb hby d2_24) hr, hrun, hended, _, _, rfl, ⟨rfl, N0, e2⟩, ⟨_, rfl⟩, hW, hsame.mono (by decide) (by decide)⟩
def Q_rm2_tn (Z : State) (wT : Addr) (a2 : Addr) (wV : Addr) (h0 : Heap) (n0 : Nat) : Option Value → Heap → List Loc → Prop := fun v h L => v = some (.int (0 : Int32)) ∧ Fr n0 L ∧ h = h0
set_option maxRecDepth 65536 in
set_option maxHeartbeats 40000000 in
theorem rm2_tn (l : Launch) (Z : State) (a0 : Array Value) (hw : ∀ d ∈ tables_1, d.before a0 Z = true) (ws : List Jvm.Cond) (wT : Addr) (a2 : Addr) (wV : Addr) (h0 : Heap) (n0 : Nat) (Z0 : n0 ≤ h0.size) (S_TABLE : Sta Z h0 "com/example/meerkat/meerkat/ObjectKind" "TABLE" "Lcom/example/meerkat/meerkat/ObjectKind;" (.ref wT)) (S_VIEW : Sta Z h0 "com/example/meerkat/meerkat/ObjectKind" "VIEW" "Lcom/example/meerkat/meerkat/ObjectKind;" (.ref wV)) (n1 : ¬ (a2 = wT)) (n2 : ¬ (a2 = wV)) :
    MetFree l (⟨"com/example/meerkat/meerkat/ObjectKind", "names", "(Lcom/example/meerkat/meerkat/ObjectKind;)Z"⟩ : MethodName) (head1 (Jvm.Cond.code (⟨"com/example/meerkat/meerkat/ObjectKind", "names", "(Lcom/example/meerkat/meerkat/ObjectKind;)Z"⟩ : MethodName) prog_9_method_7_code 2 (some .boolean) :: ws) ({ frames := 0, cells := 0, slots := 0, locals := 0 } : Room)) (fun a U => a = #[(.ref wT), (.ref a2)] ∧ Z.Warmed39 U.vm ∧ U.heap = h0) (fun _ _ _ _ _ => True) (fun _ U o U' => ∃ v L, o = .returned v ∧ (Q_rm2_tn Z wT a2 wV h0 n0) v U'.heap L ∧ FrameEnd U o U' L ({ frames := 0, cells := 0, slots := 0, locals := 0 } : Room).cells ({ frames := 0, cells := 0, slots := 0, locals := 0 } : Room).slots) := by
  refine MetFree.of_bodySF (plainFor_of_name pn_2) hisR ?_
  intro p e s m args below meth c s₁ Bd hml0 hP hK
  obtain ⟨rfl, hZ, hh⟩ := hP
  have hx := Bd.exec
  have hby := Bd.bytes
  have hml : c.maxLocals = 2 := hml0
  have hown : s.vm.findClass "com/example/meerkat/meerkat/ObjectKind" = some m.cls := findClass_of_methodNamed Bd.named
  have hnm := (name_of_methodNamed Bd.named Bd.method).1
  have X0 : Stand p l e ({ frames := 0, cells := 0, slots := 0, locals := 0 } : Room) s m #[(.ref wT), (.ref a2)] below meth c s₁ [] 0 0 := Stand.of_body Bd
  have e0 : s₁.heap = h0 := by rw [← hh, Bd.state]; rfl
  have N0 := Fr.nil n0
  show own_G FrameEnd p e below s ({ frames := 0, cells := 0, slots := 0, locals := 0 } : Room).cells ({ frames := 0, cells := 0, slots := 0, locals := 0 } : Room).slots (Q_rm2_tn Z wT a2 wV h0 n0) (s₁.setTop (entryFrame m #[(.ref wT), (.ref a2)] 2))
  refine own_go (Y' := s₁.setTop (mkF m 0 #[rv wT, rv a2] [])) ?_ (fun t k => castTop (ef_2 m wT a2) k)
  refine own_go ?_ (fun target hr => XS.aloadN X0.here hx rfl (hb hby d2_0) rfl rfl (XS.aloadN X0.here hx rfl (hb hby d2_1) rfl rfl (Jvm.RoadKit.acmp (g := (mkF m 2 #[rv wT, rv a2] [(.ref wT), (.ref a2)])) X0 hx rfl rfl rfl (pc0 := 2) (pc' := 5) (same := false) rfl (hb hby d2_2) rfl (decide_eq_false fun q => n1 (Value.ref.inj q)) (by decide) (by decide) (XS.aloadN X0.here hx rfl (hb hby d2_5) rfl rfl hr))))
  show own_G _ p e below s _ _ _ (s₁.setTop (mkF m 6 #[rv wT, rv a2] [(.ref wT)]))
  obtain ⟨T1, X1, e1, st1⟩ := getS2 X0 hx hZ hown (host := "") (Or.inl (hw _ (List.mem_of_getElem? (i := 15) rfl))) Via.refl e0 S_TABLE (g := (mkF m 6 #[rv wT, rv a2] [(.ref wT)])) rfl (hb hby d2_6)
  refine own_go ?_ (fun target hr => st1 _ (Jvm.RoadKit.acmp (g := (mkF m 9 #[rv wT, rv a2] [(.ref wT), (.ref wT)])) X1 hx rfl rfl rfl (pc0 := 9) (pc' := 12) (same := true) rfl (hb hby d2_9) rfl (decide_eq_true rfl) (by decide) (by decide) (XS.aloadN X1.here hx rfl (hb hby d2_12) rfl rfl hr)))
  show own_G _ p e below s _ _ _ (T1.setTop (mkF m 13 #[rv wT, rv a2] [(.ref a2)]))
  obtain ⟨T2, X2, e2, st2⟩ := getS2 X1 hx hZ hown (host := "") (Or.inl (hw _ (List.mem_of_getElem? (i := 20) rfl))) Via.refl e1 S_VIEW (g := (mkF m 13 #[rv wT, rv a2] [(.ref a2)])) rfl (hb hby d2_13)
  refine own_go ?_ (fun target hr => st2 _ (Jvm.RoadKit.acmp (g := (mkF m 16 #[rv wT, rv a2] [(.ref wV), (.ref a2)])) X2 hx rfl rfl rfl (pc0 := 16) (pc' := 23) (same := false) rfl (hb hby d2_16) rfl (decide_eq_false fun q => n2 (Value.ref.inj q)) (by decide) (by decide) (XS.iconst X2.here hx rfl (hb hby d2_23) hr)))
  show own_G _ p e below s _ _ _ (T2.setTop (mkF m 24 #[rv wT, rv a2] [(.int (0 : Int32))]))
  obtain ⟨fs, hr, hrun, hended, hW, hsame⟩ := X2.leave (v := some (.int (0 : Int32))) (fun h => by rw [Bd.returns] at h; cases h)
  exact ⟨_, _, retN X2 hx (t := .boolean) Bd.returns (by simp) (hb hby d2_24) hr, hrun, hended, _, _, rfl, ⟨rfl, N0, e2⟩, ⟨_, rfl⟩, hW, hsame.mono (by decide) (by decide)⟩
theorem own_and3 (x : Int32) : x &&& 3 = 0 ∨ x &&& 3 = 1 ∨ x &&& 3 = 2 ∨ x &&& 3 = 3 := by
  have h := c_mask x 3 2 (by decide) (by decide)
  simp only [← Int32.toInt_inj]
  have e0 : (0 : Int32).toInt = 0 := rfl
  have e1 : (1 : Int32).toInt = 1 := rfl
  have e2 : (2 : Int32).toInt = 2 := rfl
  have e3 : (3 : Int32).toInt = 3 := rfl
  rw [e0, e1, e2, e3]
  omega
theorem own_eqint {args : Array Value} {s : State} {t : Term} {k : Int32} (h : (Jvm.Cond.eq t (.int k)).value args s none s [] = some true) : t.eval args s none [] s = some (.int k) := by
  simp only [Cond.value, Term.eval] at h
  cases ht : t.eval args s none [] s with
  | none => simp [ht] at h
  | some x => cases x <;> simp [ht] at h ⊢; exact h
theorem own_fld {args : Array Value} {s : State} {t : Term} {a : Addr} {C n d : String} {k : Int32} (ev : t.eval args s none [] s = some (.ref a)) (h : (Jvm.Cond.eq (.field t C n d) (.int k)).value args s none s [] = some true) : Fld s s.heap a C n d (.int k) :=
  Fld.start ((fld_at ev).symm.trans (own_eqint h))
theorem pn_0 : plainName "com/example/meerkat/meerkat/ObjectKindNamesPinLaw" = true := by first | (simp [plainName, overriddenIn]; done) | decide +kernel
theorem pd__I_Lcom_example_meerkat_meerkat_ObjectKind_ : parseMethodDescriptor "(I)Lcom/example/meerkat/meerkat/ObjectKind;" = some ⟨[.int], some (.object "com/example/meerkat/meerkat/ObjectKind")⟩ := by decide +kernel
theorem pd__Lcom_example_meerkat_meerkat_ObjectKind__Z : parseMethodDescriptor "(Lcom/example/meerkat/meerkat/ObjectKind;)Z" = some ⟨[(.object "com/example/meerkat/meerkat/ObjectKind")], some .boolean⟩ := by decide +kernel
theorem ef_0 (m : MethodId) (x0 : Int32) (x1 : Int32) : entryFrame m #[(.int x0), (.int x1)] maxLocals = mkF m 0 #[iv x0, iv x1, .unset, .unset, .unset, .unset, .unset, .unset] [] := by first | (simp [entryFrame, mkF, argsToLocals, Value.category, maxLocals]; done) | rfl
def Q_rm0 (Z : State) (p1 : Int32) (p2 : Int32) (wD : Addr) (wS : Addr) (wT : Addr) (wV : Addr) (h0 : Heap) (n0 : Nat) : Option Value → Heap → List Loc → Prop := fun v h L => v = some (.int (1 : Int32)) ∧ Fr n0 L ∧ True
set_option maxRecDepth 65536 in
set_option maxHeartbeats 40000000 in
theorem rm0 (l : Launch) (Z : State) (a0 : Array Value) (hw : ∀ d ∈ tables_1, d.before a0 Z = true) (ws : List Jvm.Cond) (p1 : Int32) (p2 : Int32) (wD : Addr) (wS : Addr) (wT : Addr) (wV : Addr) (h0 : Heap) (n0 : Nat) (Z0 : n0 ≤ h0.size) (S_DATABASE : Sta Z h0 "com/example/meerkat/meerkat/ObjectKind" "DATABASE" "Lcom/example/meerkat/meerkat/ObjectKind;" (.ref wD)) (S_SCHEMA : Sta Z h0 "com/example/meerkat/meerkat/ObjectKind" "SCHEMA" "Lcom/example/meerkat/meerkat/ObjectKind;" (.ref wS)) (S_TABLE : Sta Z h0 "com/example/meerkat/meerkat/ObjectKind" "TABLE" "Lcom/example/meerkat/meerkat/ObjectKind;" (.ref wT)) (S_VIEW : Sta Z h0 "com/example/meerkat/meerkat/ObjectKind" "VIEW" "Lcom/example/meerkat/meerkat/ObjectKind;" (.ref wV)) (E_wD : Exa Z h0 wD "com/example/meerkat/meerkat/ObjectKind") (E_wS : Exa Z h0 wS "com/example/meerkat/meerkat/ObjectKind") (E_wT : Exa Z h0 wT "com/example/meerkat/meerkat/ObjectKind") (E_wV : Exa Z h0 wV "com/example/meerkat/meerkat/ObjectKind") (n_wD_wS : ¬ (wD = wS)) (n_wD_wT : ¬ (wD = wT)) (n_wD_wV : ¬ (wD = wV)) (n_wS_wD : ¬ (wS = wD)) (n_wS_wT : ¬ (wS = wT)) (n_wS_wV : ¬ (wS = wV)) (n_wT_wD : ¬ (wT = wD)) (n_wT_wS : ¬ (wT = wS)) (n_wT_wV : ¬ (wT = wV)) (n_wV_wD : ¬ (wV = wD)) (n_wV_wS : ¬ (wV = wS)) (n_wV_wT : ¬ (wV = wT)) :
    MetFree l x (head1 (Jvm.Cond.code x code maxLocals ret :: ws) room_1) (fun a U => a = #[(.int p1), (.int p2)] ∧ Z.Warmed39 U.vm ∧ U.heap = h0) (fun _ _ _ _ _ => True) (fun _ U o U' => ∃ v L, o = .returned v ∧ (Q_rm0 Z p1 p2 wD wS wT wV h0 n0) v U'.heap L ∧ FrameEnd U o U' L room_1.cells room_1.slots) := by
  refine MetFree.of_bodySF (plainFor_of_name pn_0) hisR ?_
  intro p e s m args below meth c s₁ Bd hml0 hP hK
  obtain ⟨rfl, hZ, hh⟩ := hP
  have hx := Bd.exec
  have hby := Bd.bytes
  have hml : c.maxLocals = 8 := hml0
  have hown : s.vm.findClass "com/example/meerkat/meerkat/ObjectKindNamesPinLaw" = some m.cls := findClass_of_methodNamed Bd.named
  have hnm := (name_of_methodNamed Bd.named Bd.method).1
  have X0 : Stand p l e room_1 s m #[(.int p1), (.int p2)] below meth c s₁ [] 0 0 := Stand.of_body Bd
  have e0 : s₁.heap = h0 := by rw [← hh, Bd.state]; rfl
  have N0 := Fr.nil n0
  show own_G FrameEnd p e below s room_1.cells room_1.slots (Q_rm0 Z p1 p2 wD wS wT wV h0 n0) (s₁.setTop (entryFrame m #[(.int p1), (.int p2)] maxLocals))
  refine own_go (Y' := s₁.setTop (mkF m 0 #[iv p1, iv p2, .unset, .unset, .unset, .unset, .unset, .unset] [])) ?_ (fun t k => castTop (ef_0 m p1 p2) k)
  refine own_go ?_ (fun target hr => XS.iloadN X0.here hx rfl (hb hby at_0) rfl (XS.iconst X0.here hx rfl (hb hby at_1) (XS.iand X0.here hx rfl (hb hby at_2) rfl hr)))
  show own_G _ p e below s _ _ _ (s₁.setTop (mkF m 3 #[iv p1, iv p2, .unset, .unset, .unset, .unset, .unset, .unset] [(.int (p1 &&& (3 : Int32)))]))
  rcases own_and3 p1 with hs3_0 | hs3_1 | hs3_2 | hs3_3
  ·
    rw [hs3_0]
    show own_G _ p e below s _ _ _ (s₁.setTop (mkF m 3 #[iv p1, iv p2, .unset, .unset, .unset, .unset, .unset, .unset] [(.int (0 : Int32))]))
    refine own_go ?_ (fun target hr => XS.istoreN X0.here hx rfl (hb hby at_3) rfl (l' := #[iv p1, iv p2, iv (0 : Int32), .unset, .unset, .unset, .unset, .unset]) rfl (XS.iloadN X0.here hx rfl (hb hby at_4) rfl (XS.iconst X0.here hx rfl (hb hby at_5) (XS.iand X0.here hx rfl (hb hby at_6) rfl hr))))
    show own_G _ p e below s _ _ _ (s₁.setTop (mkF m 7 #[iv p1, iv p2, iv (0 : Int32), .unset, .unset, .unset, .unset, .unset] [(.int (p2 &&& (3 : Int32)))]))
    rcases own_and3 p2 with hs7_0 | hs7_1 | hs7_2 | hs7_3
    ·
      rw [hs7_0]
      show own_G _ p e below s _ _ _ (s₁.setTop (mkF m 7 #[iv p1, iv p2, iv (0 : Int32), .unset, .unset, .unset, .unset, .unset] [(.int (0 : Int32))]))
      refine own_go ?_ (fun target hr => XS.istoreN X0.here hx rfl (hb hby at_7) rfl (l' := #[iv p1, iv p2, iv (0 : Int32), iv (0 : Int32), .unset, .unset, .unset, .unset]) rfl (XS.iloadN X0.here hx rfl (hb hby at_8) rfl hr))
      show own_G _ p e below s _ _ _ (s₁.setTop (mkF m 9 #[iv p1, iv p2, iv (0 : Int32), iv (0 : Int32), .unset, .unset, .unset, .unset] [(.int (0 : Int32))]))
      obtain ⟨_, _, ⟨T1, L1, k1, n1⟩, -, X1, ⟨Lc1, hQ1, l1, y1, z1⟩, st1⟩ := Jvm.LawKit.callS X0 hx (y := (⟨"com/example/meerkat/meerkat/ObjectKindNamesPinLaw", "kind", "(I)Lcom/example/meerkat/meerkat/ObjectKind;"⟩ : MethodName)) hown (mvT hZ (hw _ (List.mem_of_getElem? (i := 0) rfl))) (mvT hZ (hw _ (List.mem_of_getElem? (i := 1) rfl))) (mvT hZ (hw _ (List.mem_of_getElem? (i := 2) rfl))) (mvT hZ (hw _ (List.mem_of_getElem? (i := 3) rfl))) (by decide) (backOf (W := 0) (rm1_0 l Z a0 hw [] wD h0 n0 Z0 S_DATABASE) hZ (hw _ (List.mem_of_getElem? (i := 3) rfl)) (hw _ (List.mem_of_getElem? (i := 2) rfl)) (by decide) (by decide)) (g := (mkF m 9 #[iv p1, iv p2, iv (0 : Int32), iv (0 : Int32), .unset, .unset, .unset, .unset] [(.int (0 : Int32))])) rfl (by rw [hml]; rfl) (argsL := [(.int (0 : Int32))]) (rest := []) (lenOf pd__I_Lcom_example_meerkat_meerkat_ObjectKind_ rfl) rfl (by show 2 * 0 + _ ≤ _; exact Nat.le_of_eq rfl) (hb hby at_9) (fun _ _ => ⟨rfl, e0, (by decide : 0 + 0 ≤ _), (by decide : 0 + 0 ≤ _)⟩)
      dsimp only [Pt.U, Pt.locs, Pt.cells, Pt.slots] at X1 l1 y1 z1 st1 hQ1
      subst l1 y1 z1
      obtain ⟨rfl, N1q, e1⟩ := hQ1
      have N1 := Fr.app N0 N1q
      refine own_go ?_ (fun target hr => st1 _ (XS.astore X1.here hx rfl (hb hby at_12) rfl rfl (l' := #[iv p1, iv p2, iv (0 : Int32), iv (0 : Int32), rv wD, .unset, .unset, .unset]) rfl (XS.iloadN X1.here hx rfl (hb hby at_14) rfl hr)))
      show own_G _ p e below s _ _ _ (T1.setTop (mkF m 15 #[iv p1, iv p2, iv (0 : Int32), iv (0 : Int32), rv wD, .unset, .unset, .unset] [(.int (0 : Int32))]))
      obtain ⟨_, _, ⟨T2, L2, k2, n2⟩, -, X2, ⟨Lc2, hQ2, l2, y2, z2⟩, st2⟩ := Jvm.LawKit.callS X1 hx (y := (⟨"com/example/meerkat/meerkat/ObjectKindNamesPinLaw", "kind", "(I)Lcom/example/meerkat/meerkat/ObjectKind;"⟩ : MethodName)) hown (mvT hZ (hw _ (List.mem_of_getElem? (i := 0) rfl))) (mvT hZ (hw _ (List.mem_of_getElem? (i := 1) rfl))) (mvT hZ (hw _ (List.mem_of_getElem? (i := 2) rfl))) (mvT hZ (hw _ (List.mem_of_getElem? (i := 3) rfl))) (by decide) (backOf (W := 0) (rm1_0 l Z a0 hw [] wD h0 n0 Z0 S_DATABASE) hZ (hw _ (List.mem_of_getElem? (i := 3) rfl)) (hw _ (List.mem_of_getElem? (i := 2) rfl)) (by decide) (by decide)) (g := (mkF m 15 #[iv p1, iv p2, iv (0 : Int32), iv (0 : Int32), rv wD, .unset, .unset, .unset] [(.int (0 : Int32))])) rfl (by rw [hml]; rfl) (argsL := [(.int (0 : Int32))]) (rest := []) (lenOf pd__I_Lcom_example_meerkat_meerkat_ObjectKind_ rfl) rfl (by show 2 * 0 + _ ≤ _; exact Nat.le_of_eq rfl) (hb hby at_15) (fun _ _ => ⟨rfl, e1, (by decide : 0 + 0 ≤ _), (by decide : 0 + 0 ≤ _)⟩)
      dsimp only [Pt.U, Pt.locs, Pt.cells, Pt.slots] at X2 l2 y2 z2 st2 hQ2
      subst l2 y2 z2
      obtain ⟨rfl, N2q, e2⟩ := hQ2
      have N2 := Fr.app N1 N2q
      refine own_go ?_ (fun target hr => st2 _ (XS.astore X2.here hx rfl (hb hby at_18) rfl rfl (l' := #[iv p1, iv p2, iv (0 : Int32), iv (0 : Int32), rv wD, rv wD, .unset, .unset]) rfl (X2.ldcI hx hown (mvT hZ (hw _ (List.mem_of_getElem? (i := 9) rfl))) rfl (hb hby at_20) (XS.istore X2.here hx rfl (hb hby at_22) rfl (l' := #[iv p1, iv p2, iv (0 : Int32), iv (0 : Int32), rv wD, rv wD, iv (35873 : Int32), .unset]) rfl (XS.iload X2.here hx rfl (hb hby at_24) rfl (XS.iloadN X2.here hx rfl (hb hby at_26) rfl (XS.iconst X2.here hx rfl (hb hby at_27) (XS.imul X2.here hx rfl (hb hby at_28) rfl hr))))))))
      show own_G _ p e below s _ _ _ (T2.setTop (mkF m 29 #[iv p1, iv p2, iv (0 : Int32), iv (0 : Int32), rv wD, rv wD, iv (35873 : Int32), .unset] [(.int (0 : Int32)), (.int (35873 : Int32))]))
      refine own_go ?_ (fun target hr => XS.iloadN X2.here hx rfl (hb hby at_29) rfl (XS.iadd X2.here hx rfl (hb hby at_30) rfl (XS.iushr X2.here hx rfl (hb hby at_31) rfl (XS.iconst X2.here hx rfl (hb hby at_32) (XS.iand X2.here hx rfl (hb hby at_33) rfl (XS.ifNo X2.here hx rfl (hb hby at_34) rfl ((if0 _ _).trans (feq (by decide : ¬ ((1 : Int32) = (0 : Int32)))).1) (XS.iconst X2.here hx rfl (hb hby at_37) (XS.goto X2.here hx rfl (pc0 := 38) (pc' := 42) rfl (hb hby at_38) (by decide) (by decide) hr))))))))
      show own_G _ p e below s _ _ _ (T2.setTop (mkF m 42 #[iv p1, iv p2, iv (0 : Int32), iv (0 : Int32), rv wD, rv wD, iv (35873 : Int32), .unset] [(.int (1 : Int32))]))
      refine own_go ?_ (fun target hr => XS.istore X2.here hx rfl (hb hby at_42) rfl (l' := #[iv p1, iv p2, iv (0 : Int32), iv (0 : Int32), rv wD, rv wD, iv (35873 : Int32), iv (1 : Int32)]) rfl (XS.aload X2.here hx rfl (hb hby at_44) rfl rfl (XS.aload X2.here hx rfl (hb hby at_46) rfl rfl hr)))
      show own_G _ p e below s _ _ _ (T2.setTop (mkF m 48 #[iv p1, iv p2, iv (0 : Int32), iv (0 : Int32), rv wD, rv wD, iv (35873 : Int32), iv (1 : Int32)] [(.ref wD), (.ref wD)]))
      obtain ⟨cq3, kq3, q3a, q3b, q3c⟩ := isOf hZ e2 E_wD
      obtain ⟨_, _, ⟨T3, L3, k3, n3⟩, -, X3, ⟨Lc3, hQ3, l3, y3, z3⟩, st3⟩ := X2.virtualBack hx (y := (⟨"com/example/meerkat/meerkat/ObjectKind", "names", "(Lcom/example/meerkat/meerkat/ObjectKind;)Z"⟩ : MethodName)) (z := (⟨"com/example/meerkat/meerkat/ObjectKind", "names", "(Lcom/example/meerkat/meerkat/ObjectKind;)Z"⟩ : MethodName)) hown (mvT hZ (hw _ (List.mem_of_getElem? (i := 10) rfl))) (mvT hZ (hw _ (List.mem_of_getElem? (i := 11) rfl))) (notFace_of_selects (args := #[]) (mvT hZ (hw _ (List.mem_of_getElem? (i := 13) rfl)))) (mvT hZ (hw _ (List.mem_of_getElem? (i := 13) rfl))) (mvT hZ (hw _ (List.mem_of_getElem? (i := 12) rfl))) (by decide) (backOf (W := 0) (rm2_s l Z a0 hw [] wD h0 n0 Z0 ) hZ (hw _ (List.mem_of_getElem? (i := 14) rfl)) (hw _ (List.mem_of_getElem? (i := 5) rfl)) (by decide) (by decide)) q3a q3c (g := (mkF m 48 #[iv p1, iv p2, iv (0 : Int32), iv (0 : Int32), rv wD, rv wD, iv (35873 : Int32), iv (1 : Int32)] [(.ref wD), (.ref wD)])) rfl (by rw [hml]; rfl) (Steps.refl _) (argsL := [(.ref wD)]) (rest := []) (lenOf pd__Lcom_example_meerkat_meerkat_ObjectKind__Z rfl) rfl (by show 2 * 0 + _ ≤ _; exact Nat.le_of_eq rfl) (hb hby at_48) (fun _ _ => ⟨rfl, e2, (by decide : 0 + 0 ≤ _), (by decide : 0 + 0 ≤ _)⟩)
      dsimp only [Pt.U, Pt.locs, Pt.cells, Pt.slots] at X3 l3 y3 z3 st3 hQ3
      subst l3 y3 z3
      obtain ⟨rfl, N3q, e3⟩ := hQ3
      have N3 := Fr.app N2 N3q
      refine own_go ?_ (fun target hr => st3.trans (XS.iload X3.here hx rfl (hb hby at_51) rfl (XS.icmpNo X3.here hx rfl (hb hby at_53) rfl (teq (by decide : (1 : Int32) = (1 : Int32))).2 (XS.iconst X3.here hx rfl (hb hby at_56) (XS.goto X3.here hx rfl (pc0 := 57) (pc' := 61) rfl (hb hby at_57) (by decide) (by decide) hr)))))
      show own_G _ p e below s _ _ _ (T3.setTop (mkF m 61 #[iv p1, iv p2, iv (0 : Int32), iv (0 : Int32), rv wD, rv wD, iv (35873 : Int32), iv (1 : Int32)] [(.int (1 : Int32))]))
      obtain ⟨fs, hr, hrun, hended, hW, hsame⟩ := X3.leave (v := some (.int (1 : Int32))) (fun h => by rw [Bd.returns] at h; cases h)
      exact ⟨_, _, retN X3 hx (t := .boolean) Bd.returns (by simp) (hb hby at_61) hr, hrun, hended, _, _, rfl, ⟨rfl, N3, trivial⟩, ⟨_, rfl⟩, hW, hsame.mono (by decide) (by decide)⟩
    ·
      rw [hs7_1]
      show own_G _ p e below s _ _ _ (s₁.setTop (mkF m 7 #[iv p1, iv p2, iv (0 : Int32), .unset, .unset, .unset, .unset, .unset] [(.int (1 : Int32))]))
      refine own_go ?_ (fun target hr => XS.istoreN X0.here hx rfl (hb hby at_7) rfl (l' := #[iv p1, iv p2, iv (0 : Int32), iv (1 : Int32), .unset, .unset, .unset, .unset]) rfl (XS.iloadN X0.here hx rfl (hb hby at_8) rfl hr))
      show own_G _ p e below s _ _ _ (s₁.setTop (mkF m 9 #[iv p1, iv p2, iv (0 : Int32), iv (1 : Int32), .unset, .unset, .unset, .unset] [(.int (0 : Int32))]))
      obtain ⟨_, _, ⟨T4, L4, k4, n4⟩, -, X4, ⟨Lc4, hQ4, l4, y4, z4⟩, st4⟩ := Jvm.LawKit.callS X0 hx (y := (⟨"com/example/meerkat/meerkat/ObjectKindNamesPinLaw", "kind", "(I)Lcom/example/meerkat/meerkat/ObjectKind;"⟩ : MethodName)) hown (mvT hZ (hw _ (List.mem_of_getElem? (i := 0) rfl))) (mvT hZ (hw _ (List.mem_of_getElem? (i := 1) rfl))) (mvT hZ (hw _ (List.mem_of_getElem? (i := 2) rfl))) (mvT hZ (hw _ (List.mem_of_getElem? (i := 3) rfl))) (by decide) (backOf (W := 0) (rm1_0 l Z a0 hw [] wD h0 n0 Z0 S_DATABASE) hZ (hw _ (List.mem_of_getElem? (i := 3) rfl)) (hw _ (List.mem_of_getElem? (i := 2) rfl)) (by decide) (by decide)) (g := (mkF m 9 #[iv p1, iv p2, iv (0 : Int32), iv (1 : Int32), .unset, .unset, .unset, .unset] [(.int (0 : Int32))])) rfl (by rw [hml]; rfl) (argsL := [(.int (0 : Int32))]) (rest := []) (lenOf pd__I_Lcom_example_meerkat_meerkat_ObjectKind_ rfl) rfl (by show 2 * 0 + _ ≤ _; exact Nat.le_of_eq rfl) (hb hby at_9) (fun _ _ => ⟨rfl, e0, (by decide : 0 + 0 ≤ _), (by decide : 0 + 0 ≤ _)⟩)
      dsimp only [Pt.U, Pt.locs, Pt.cells, Pt.slots] at X4 l4 y4 z4 st4 hQ4
      subst l4 y4 z4
      obtain ⟨rfl, N4q, e4⟩ := hQ4
      have N4 := Fr.app N0 N4q
      refine own_go ?_ (fun target hr => st4 _ (XS.astore X4.here hx rfl (hb hby at_12) rfl rfl (l' := #[iv p1, iv p2, iv (0 : Int32), iv (1 : Int32), rv wD, .unset, .unset, .unset]) rfl (XS.iloadN X4.here hx rfl (hb hby at_14) rfl hr)))
      show own_G _ p e below s _ _ _ (T4.setTop (mkF m 15 #[iv p1, iv p2, iv (0 : Int32), iv (1 : Int32), rv wD, .unset, .unset, .unset] [(.int (1 : Int32))]))
      obtain ⟨_, _, ⟨T5, L5, k5, n5⟩, -, X5, ⟨Lc5, hQ5, l5, y5, z5⟩, st5⟩ := Jvm.LawKit.callS X4 hx (y := (⟨"com/example/meerkat/meerkat/ObjectKindNamesPinLaw", "kind", "(I)Lcom/example/meerkat/meerkat/ObjectKind;"⟩ : MethodName)) hown (mvT hZ (hw _ (List.mem_of_getElem? (i := 0) rfl))) (mvT hZ (hw _ (List.mem_of_getElem? (i := 1) rfl))) (mvT hZ (hw _ (List.mem_of_getElem? (i := 2) rfl))) (mvT hZ (hw _ (List.mem_of_getElem? (i := 3) rfl))) (by decide) (backOf (W := 0) (rm1_1 l Z a0 hw [] wS h0 n0 Z0 S_SCHEMA) hZ (hw _ (List.mem_of_getElem? (i := 3) rfl)) (hw _ (List.mem_of_getElem? (i := 2) rfl)) (by decide) (by decide)) (g := (mkF m 15 #[iv p1, iv p2, iv (0 : Int32), iv (1 : Int32), rv wD, .unset, .unset, .unset] [(.int (1 : Int32))])) rfl (by rw [hml]; rfl) (argsL := [(.int (1 : Int32))]) (rest := []) (lenOf pd__I_Lcom_example_meerkat_meerkat_ObjectKind_ rfl) rfl (by show 2 * 0 + _ ≤ _; exact Nat.le_of_eq rfl) (hb hby at_15) (fun _ _ => ⟨rfl, e4, (by decide : 0 + 0 ≤ _), (by decide : 0 + 0 ≤ _)⟩)
      dsimp only [Pt.U, Pt.locs, Pt.cells, Pt.slots] at X5 l5 y5 z5 st5 hQ5
      subst l5 y5 z5
      obtain ⟨rfl, N5q, e5⟩ := hQ5
      have N5 := Fr.app N4 N5q
      refine own_go ?_ (fun target hr => st5 _ (XS.astore X5.here hx rfl (hb hby at_18) rfl rfl (l' := #[iv p1, iv p2, iv (0 : Int32), iv (1 : Int32), rv wD, rv wS, .unset, .unset]) rfl (X5.ldcI hx hown (mvT hZ (hw _ (List.mem_of_getElem? (i := 9) rfl))) rfl (hb hby at_20) (XS.istore X5.here hx rfl (hb hby at_22) rfl (l' := #[iv p1, iv p2, iv (0 : Int32), iv (1 : Int32), rv wD, rv wS, iv (35873 : Int32), .unset]) rfl (XS.iload X5.here hx rfl (hb hby at_24) rfl (XS.iloadN X5.here hx rfl (hb hby at_26) rfl (XS.iconst X5.here hx rfl (hb hby at_27) (XS.imul X5.here hx rfl (hb hby at_28) rfl hr))))))))
      show own_G _ p e below s _ _ _ (T5.setTop (mkF m 29 #[iv p1, iv p2, iv (0 : Int32), iv (1 : Int32), rv wD, rv wS, iv (35873 : Int32), .unset] [(.int (0 : Int32)), (.int (35873 : Int32))]))
      refine own_go ?_ (fun target hr => XS.iloadN X5.here hx rfl (hb hby at_29) rfl (XS.iadd X5.here hx rfl (hb hby at_30) rfl (XS.iushr X5.here hx rfl (hb hby at_31) rfl (XS.iconst X5.here hx rfl (hb hby at_32) (XS.iand X5.here hx rfl (hb hby at_33) rfl (XS.ifYes X5.here hx rfl (pc0 := 34) (pc' := 41) rfl (hb hby at_34) rfl ((if0 _ _).trans (teq (by decide : (0 : Int32) = (0 : Int32))).1) (by decide) (by decide) (XS.iconst X5.here hx rfl (hb hby at_41) (XS.istore X5.here hx rfl (hb hby at_42) rfl (l' := #[iv p1, iv p2, iv (0 : Int32), iv (1 : Int32), rv wD, rv wS, iv (35873 : Int32), iv (0 : Int32)]) rfl hr))))))))
      show own_G _ p e below s _ _ _ (T5.setTop (mkF m 44 #[iv p1, iv p2, iv (0 : Int32), iv (1 : Int32), rv wD, rv wS, iv (35873 : Int32), iv (0 : Int32)] []))
      refine own_go ?_ (fun target hr => XS.aload X5.here hx rfl (hb hby at_44) rfl rfl (XS.aload X5.here hx rfl (hb hby at_46) rfl rfl hr))
      show own_G _ p e below s _ _ _ (T5.setTop (mkF m 48 #[iv p1, iv p2, iv (0 : Int32), iv (1 : Int32), rv wD, rv wS, iv (35873 : Int32), iv (0 : Int32)] [(.ref wS), (.ref wD)]))
      obtain ⟨cq6, kq6, q6a, q6b, q6c⟩ := isOf hZ e5 E_wD
      obtain ⟨_, _, ⟨T6, L6, k6, n6⟩, -, X6, ⟨Lc6, hQ6, l6, y6, z6⟩, st6⟩ := X5.virtualBack hx (y := (⟨"com/example/meerkat/meerkat/ObjectKind", "names", "(Lcom/example/meerkat/meerkat/ObjectKind;)Z"⟩ : MethodName)) (z := (⟨"com/example/meerkat/meerkat/ObjectKind", "names", "(Lcom/example/meerkat/meerkat/ObjectKind;)Z"⟩ : MethodName)) hown (mvT hZ (hw _ (List.mem_of_getElem? (i := 10) rfl))) (mvT hZ (hw _ (List.mem_of_getElem? (i := 11) rfl))) (notFace_of_selects (args := #[]) (mvT hZ (hw _ (List.mem_of_getElem? (i := 13) rfl)))) (mvT hZ (hw _ (List.mem_of_getElem? (i := 13) rfl))) (mvT hZ (hw _ (List.mem_of_getElem? (i := 12) rfl))) (by decide) (backOf (W := 0) (rm2_n l Z a0 hw [] wD wS wT h0 n0 Z0 S_TABLE n_wS_wD n_wD_wT) hZ (hw _ (List.mem_of_getElem? (i := 14) rfl)) (hw _ (List.mem_of_getElem? (i := 5) rfl)) (by decide) (by decide)) q6a q6c (g := (mkF m 48 #[iv p1, iv p2, iv (0 : Int32), iv (1 : Int32), rv wD, rv wS, iv (35873 : Int32), iv (0 : Int32)] [(.ref wS), (.ref wD)])) rfl (by rw [hml]; rfl) (Steps.refl _) (argsL := [(.ref wS)]) (rest := []) (lenOf pd__Lcom_example_meerkat_meerkat_ObjectKind__Z rfl) rfl (by show 2 * 0 + _ ≤ _; exact Nat.le_of_eq rfl) (hb hby at_48) (fun _ _ => ⟨rfl, e5, (by decide : 0 + 0 ≤ _), (by decide : 0 + 0 ≤ _)⟩)
      dsimp only [Pt.U, Pt.locs, Pt.cells, Pt.slots] at X6 l6 y6 z6 st6 hQ6
      subst l6 y6 z6
      obtain ⟨rfl, N6q, e6⟩ := hQ6
      have N6 := Fr.app N5 N6q
      refine own_go ?_ (fun target hr => st6.trans (XS.iload X6.here hx rfl (hb hby at_51) rfl (XS.icmpNo X6.here hx rfl (hb hby at_53) rfl (teq (by decide : (0 : Int32) = (0 : Int32))).2 (XS.iconst X6.here hx rfl (hb hby at_56) (XS.goto X6.here hx rfl (pc0 := 57) (pc' := 61) rfl (hb hby at_57) (by decide) (by decide) hr)))))
      show own_G _ p e below s _ _ _ (T6.setTop (mkF m 61 #[iv p1, iv p2, iv (0 : Int32), iv (1 : Int32), rv wD, rv wS, iv (35873 : Int32), iv (0 : Int32)] [(.int (1 : Int32))]))
      obtain ⟨fs, hr, hrun, hended, hW, hsame⟩ := X6.leave (v := some (.int (1 : Int32))) (fun h => by rw [Bd.returns] at h; cases h)
      exact ⟨_, _, retN X6 hx (t := .boolean) Bd.returns (by simp) (hb hby at_61) hr, hrun, hended, _, _, rfl, ⟨rfl, N6, trivial⟩, ⟨_, rfl⟩, hW, hsame.mono (by decide) (by decide)⟩
    ·
      rw [hs7_2]
      show own_G _ p e below s _ _ _ (s₁.setTop (mkF m 7 #[iv p1, iv p2, iv (0 : Int32), .unset, .unset, .unset, .unset, .unset] [(.int (2 : Int32))]))
      refine own_go ?_ (fun target hr => XS.istoreN X0.here hx rfl (hb hby at_7) rfl (l' := #[iv p1, iv p2, iv (0 : Int32), iv (2 : Int32), .unset, .unset, .unset, .unset]) rfl (XS.iloadN X0.here hx rfl (hb hby at_8) rfl hr))
      show own_G _ p e below s _ _ _ (s₁.setTop (mkF m 9 #[iv p1, iv p2, iv (0 : Int32), iv (2 : Int32), .unset, .unset, .unset, .unset] [(.int (0 : Int32))]))
      obtain ⟨_, _, ⟨T7, L7, k7, n7⟩, -, X7, ⟨Lc7, hQ7, l7, y7, z7⟩, st7⟩ := Jvm.LawKit.callS X0 hx (y := (⟨"com/example/meerkat/meerkat/ObjectKindNamesPinLaw", "kind", "(I)Lcom/example/meerkat/meerkat/ObjectKind;"⟩ : MethodName)) hown (mvT hZ (hw _ (List.mem_of_getElem? (i := 0) rfl))) (mvT hZ (hw _ (List.mem_of_getElem? (i := 1) rfl))) (mvT hZ (hw _ (List.mem_of_getElem? (i := 2) rfl))) (mvT hZ (hw _ (List.mem_of_getElem? (i := 3) rfl))) (by decide) (backOf (W := 0) (rm1_0 l Z a0 hw [] wD h0 n0 Z0 S_DATABASE) hZ (hw _ (List.mem_of_getElem? (i := 3) rfl)) (hw _ (List.mem_of_getElem? (i := 2) rfl)) (by decide) (by decide)) (g := (mkF m 9 #[iv p1, iv p2, iv (0 : Int32), iv (2 : Int32), .unset, .unset, .unset, .unset] [(.int (0 : Int32))])) rfl (by rw [hml]; rfl) (argsL := [(.int (0 : Int32))]) (rest := []) (lenOf pd__I_Lcom_example_meerkat_meerkat_ObjectKind_ rfl) rfl (by show 2 * 0 + _ ≤ _; exact Nat.le_of_eq rfl) (hb hby at_9) (fun _ _ => ⟨rfl, e0, (by decide : 0 + 0 ≤ _), (by decide : 0 + 0 ≤ _)⟩)
      dsimp only [Pt.U, Pt.locs, Pt.cells, Pt.slots] at X7 l7 y7 z7 st7 hQ7
      subst l7 y7 z7
      obtain ⟨rfl, N7q, e7⟩ := hQ7
      have N7 := Fr.app N0 N7q
      refine own_go ?_ (fun target hr => st7 _ (XS.astore X7.here hx rfl (hb hby at_12) rfl rfl (l' := #[iv p1, iv p2, iv (0 : Int32), iv (2 : Int32), rv wD, .unset, .unset, .unset]) rfl (XS.iloadN X7.here hx rfl (hb hby at_14) rfl hr)))
      show own_G _ p e below s _ _ _ (T7.setTop (mkF m 15 #[iv p1, iv p2, iv (0 : Int32), iv (2 : Int32), rv wD, .unset, .unset, .unset] [(.int (2 : Int32))]))
      obtain ⟨_, _, ⟨T8, L8, k8, n8⟩, -, X8, ⟨Lc8, hQ8, l8, y8, z8⟩, st8⟩ := Jvm.LawKit.callS X7 hx (y := (⟨"com/example/meerkat/meerkat/ObjectKindNamesPinLaw", "kind", "(I)Lcom/example/meerkat/meerkat/ObjectKind;"⟩ : MethodName)) hown (mvT hZ (hw _ (List.mem_of_getElem? (i := 0) rfl))) (mvT hZ (hw _ (List.mem_of_getElem? (i := 1) rfl))) (mvT hZ (hw _ (List.mem_of_getElem? (i := 2) rfl))) (mvT hZ (hw _ (List.mem_of_getElem? (i := 3) rfl))) (by decide) (backOf (W := 0) (rm1_2 l Z a0 hw [] wT h0 n0 Z0 S_TABLE) hZ (hw _ (List.mem_of_getElem? (i := 3) rfl)) (hw _ (List.mem_of_getElem? (i := 2) rfl)) (by decide) (by decide)) (g := (mkF m 15 #[iv p1, iv p2, iv (0 : Int32), iv (2 : Int32), rv wD, .unset, .unset, .unset] [(.int (2 : Int32))])) rfl (by rw [hml]; rfl) (argsL := [(.int (2 : Int32))]) (rest := []) (lenOf pd__I_Lcom_example_meerkat_meerkat_ObjectKind_ rfl) rfl (by show 2 * 0 + _ ≤ _; exact Nat.le_of_eq rfl) (hb hby at_15) (fun _ _ => ⟨rfl, e7, (by decide : 0 + 0 ≤ _), (by decide : 0 + 0 ≤ _)⟩)
      dsimp only [Pt.U, Pt.locs, Pt.cells, Pt.slots] at X8 l8 y8 z8 st8 hQ8
      subst l8 y8 z8
      obtain ⟨rfl, N8q, e8⟩ := hQ8
      have N8 := Fr.app N7 N8q
      refine own_go ?_ (fun target hr => st8 _ (XS.astore X8.here hx rfl (hb hby at_18) rfl rfl (l' := #[iv p1, iv p2, iv (0 : Int32), iv (2 : Int32), rv wD, rv wT, .unset, .unset]) rfl (X8.ldcI hx hown (mvT hZ (hw _ (List.mem_of_getElem? (i := 9) rfl))) rfl (hb hby at_20) (XS.istore X8.here hx rfl (hb hby at_22) rfl (l' := #[iv p1, iv p2, iv (0 : Int32), iv (2 : Int32), rv wD, rv wT, iv (35873 : Int32), .unset]) rfl (XS.iload X8.here hx rfl (hb hby at_24) rfl (XS.iloadN X8.here hx rfl (hb hby at_26) rfl (XS.iconst X8.here hx rfl (hb hby at_27) (XS.imul X8.here hx rfl (hb hby at_28) rfl hr))))))))
      show own_G _ p e below s _ _ _ (T8.setTop (mkF m 29 #[iv p1, iv p2, iv (0 : Int32), iv (2 : Int32), rv wD, rv wT, iv (35873 : Int32), .unset] [(.int (0 : Int32)), (.int (35873 : Int32))]))
      refine own_go ?_ (fun target hr => XS.iloadN X8.here hx rfl (hb hby at_29) rfl (XS.iadd X8.here hx rfl (hb hby at_30) rfl (XS.iushr X8.here hx rfl (hb hby at_31) rfl (XS.iconst X8.here hx rfl (hb hby at_32) (XS.iand X8.here hx rfl (hb hby at_33) rfl (XS.ifYes X8.here hx rfl (pc0 := 34) (pc' := 41) rfl (hb hby at_34) rfl ((if0 _ _).trans (teq (by decide : (0 : Int32) = (0 : Int32))).1) (by decide) (by decide) (XS.iconst X8.here hx rfl (hb hby at_41) (XS.istore X8.here hx rfl (hb hby at_42) rfl (l' := #[iv p1, iv p2, iv (0 : Int32), iv (2 : Int32), rv wD, rv wT, iv (35873 : Int32), iv (0 : Int32)]) rfl hr))))))))
      show own_G _ p e below s _ _ _ (T8.setTop (mkF m 44 #[iv p1, iv p2, iv (0 : Int32), iv (2 : Int32), rv wD, rv wT, iv (35873 : Int32), iv (0 : Int32)] []))
      refine own_go ?_ (fun target hr => XS.aload X8.here hx rfl (hb hby at_44) rfl rfl (XS.aload X8.here hx rfl (hb hby at_46) rfl rfl hr))
      show own_G _ p e below s _ _ _ (T8.setTop (mkF m 48 #[iv p1, iv p2, iv (0 : Int32), iv (2 : Int32), rv wD, rv wT, iv (35873 : Int32), iv (0 : Int32)] [(.ref wT), (.ref wD)]))
      obtain ⟨cq9, kq9, q9a, q9b, q9c⟩ := isOf hZ e8 E_wD
      obtain ⟨_, _, ⟨T9, L9, k9, n9⟩, -, X9, ⟨Lc9, hQ9, l9, y9, z9⟩, st9⟩ := X8.virtualBack hx (y := (⟨"com/example/meerkat/meerkat/ObjectKind", "names", "(Lcom/example/meerkat/meerkat/ObjectKind;)Z"⟩ : MethodName)) (z := (⟨"com/example/meerkat/meerkat/ObjectKind", "names", "(Lcom/example/meerkat/meerkat/ObjectKind;)Z"⟩ : MethodName)) hown (mvT hZ (hw _ (List.mem_of_getElem? (i := 10) rfl))) (mvT hZ (hw _ (List.mem_of_getElem? (i := 11) rfl))) (notFace_of_selects (args := #[]) (mvT hZ (hw _ (List.mem_of_getElem? (i := 13) rfl)))) (mvT hZ (hw _ (List.mem_of_getElem? (i := 13) rfl))) (mvT hZ (hw _ (List.mem_of_getElem? (i := 12) rfl))) (by decide) (backOf (W := 0) (rm2_n l Z a0 hw [] wD wT wT h0 n0 Z0 S_TABLE n_wT_wD n_wD_wT) hZ (hw _ (List.mem_of_getElem? (i := 14) rfl)) (hw _ (List.mem_of_getElem? (i := 5) rfl)) (by decide) (by decide)) q9a q9c (g := (mkF m 48 #[iv p1, iv p2, iv (0 : Int32), iv (2 : Int32), rv wD, rv wT, iv (35873 : Int32), iv (0 : Int32)] [(.ref wT), (.ref wD)])) rfl (by rw [hml]; rfl) (Steps.refl _) (argsL := [(.ref wT)]) (rest := []) (lenOf pd__Lcom_example_meerkat_meerkat_ObjectKind__Z rfl) rfl (by show 2 * 0 + _ ≤ _; exact Nat.le_of_eq rfl) (hb hby at_48) (fun _ _ => ⟨rfl, e8, (by decide : 0 + 0 ≤ _), (by decide : 0 + 0 ≤ _)⟩)
      dsimp only [Pt.U, Pt.locs, Pt.cells, Pt.slots] at X9 l9 y9 z9 st9 hQ9
      subst l9 y9 z9
      obtain ⟨rfl, N9q, e9⟩ := hQ9
      have N9 := Fr.app N8 N9q
      refine own_go ?_ (fun target hr => st9.trans (XS.iload X9.here hx rfl (hb hby at_51) rfl (XS.icmpNo X9.here hx rfl (hb hby at_53) rfl (teq (by decide : (0 : Int32) = (0 : Int32))).2 (XS.iconst X9.here hx rfl (hb hby at_56) (XS.goto X9.here hx rfl (pc0 := 57) (pc' := 61) rfl (hb hby at_57) (by decide) (by decide) hr)))))
      show own_G _ p e below s _ _ _ (T9.setTop (mkF m 61 #[iv p1, iv p2, iv (0 : Int32), iv (2 : Int32), rv wD, rv wT, iv (35873 : Int32), iv (0 : Int32)] [(.int (1 : Int32))]))
      obtain ⟨fs, hr, hrun, hended, hW, hsame⟩ := X9.leave (v := some (.int (1 : Int32))) (fun h => by rw [Bd.returns] at h; cases h)
      exact ⟨_, _, retN X9 hx (t := .boolean) Bd.returns (by simp) (hb hby at_61) hr, hrun, hended, _, _, rfl, ⟨rfl, N9, trivial⟩, ⟨_, rfl⟩, hW, hsame.mono (by decide) (by decide)⟩
    ·
      rw [hs7_3]
      show own_G _ p e below s _ _ _ (s₁.setTop (mkF m 7 #[iv p1, iv p2, iv (0 : Int32), .unset, .unset, .unset, .unset, .unset] [(.int (3 : Int32))]))
      refine own_go ?_ (fun target hr => XS.istoreN X0.here hx rfl (hb hby at_7) rfl (l' := #[iv p1, iv p2, iv (0 : Int32), iv (3 : Int32), .unset, .unset, .unset, .unset]) rfl (XS.iloadN X0.here hx rfl (hb hby at_8) rfl hr))
      show own_G _ p e below s _ _ _ (s₁.setTop (mkF m 9 #[iv p1, iv p2, iv (0 : Int32), iv (3 : Int32), .unset, .unset, .unset, .unset] [(.int (0 : Int32))]))
      obtain ⟨_, _, ⟨T10, L10, k10, n10⟩, -, X10, ⟨Lc10, hQ10, l10, y10, z10⟩, st10⟩ := Jvm.LawKit.callS X0 hx (y := (⟨"com/example/meerkat/meerkat/ObjectKindNamesPinLaw", "kind", "(I)Lcom/example/meerkat/meerkat/ObjectKind;"⟩ : MethodName)) hown (mvT hZ (hw _ (List.mem_of_getElem? (i := 0) rfl))) (mvT hZ (hw _ (List.mem_of_getElem? (i := 1) rfl))) (mvT hZ (hw _ (List.mem_of_getElem? (i := 2) rfl))) (mvT hZ (hw _ (List.mem_of_getElem? (i := 3) rfl))) (by decide) (backOf (W := 0) (rm1_0 l Z a0 hw [] wD h0 n0 Z0 S_DATABASE) hZ (hw _ (List.mem_of_getElem? (i := 3) rfl)) (hw _ (List.mem_of_getElem? (i := 2) rfl)) (by decide) (by decide)) (g := (mkF m 9 #[iv p1, iv p2, iv (0 : Int32), iv (3 : Int32), .unset, .unset, .unset, .unset] [(.int (0 : Int32))])) rfl (by rw [hml]; rfl) (argsL := [(.int (0 : Int32))]) (rest := []) (lenOf pd__I_Lcom_example_meerkat_meerkat_ObjectKind_ rfl) rfl (by show 2 * 0 + _ ≤ _; exact Nat.le_of_eq rfl) (hb hby at_9) (fun _ _ => ⟨rfl, e0, (by decide : 0 + 0 ≤ _), (by decide : 0 + 0 ≤ _)⟩)
      dsimp only [Pt.U, Pt.locs, Pt.cells, Pt.slots] at X10 l10 y10 z10 st10 hQ10
      subst l10 y10 z10
      obtain ⟨rfl, N10q, e10⟩ := hQ10
      have N10 := Fr.app N0 N10q
      refine own_go ?_ (fun target hr => st10 _ (XS.astore X10.here hx rfl (hb hby at_12) rfl rfl (l' := #[iv p1, iv p2, iv (0 : Int32), iv (3 : Int32), rv wD, .unset, .unset, .unset]) rfl (XS.iloadN X10.here hx rfl (hb hby at_14) rfl hr)))
      show own_G _ p e below s _ _ _ (T10.setTop (mkF m 15 #[iv p1, iv p2, iv (0 : Int32), iv (3 : Int32), rv wD, .unset, .unset, .unset] [(.int (3 : Int32))]))
      obtain ⟨_, _, ⟨T11, L11, k11, n11⟩, -, X11, ⟨Lc11, hQ11, l11, y11, z11⟩, st11⟩ := Jvm.LawKit.callS X10 hx (y := (⟨"com/example/meerkat/meerkat/ObjectKindNamesPinLaw", "kind", "(I)Lcom/example/meerkat/meerkat/ObjectKind;"⟩ : MethodName)) hown (mvT hZ (hw _ (List.mem_of_getElem? (i := 0) rfl))) (mvT hZ (hw _ (List.mem_of_getElem? (i := 1) rfl))) (mvT hZ (hw _ (List.mem_of_getElem? (i := 2) rfl))) (mvT hZ (hw _ (List.mem_of_getElem? (i := 3) rfl))) (by decide) (backOf (W := 0) (rm1_3 l Z a0 hw [] wV h0 n0 Z0 S_VIEW) hZ (hw _ (List.mem_of_getElem? (i := 3) rfl)) (hw _ (List.mem_of_getElem? (i := 2) rfl)) (by decide) (by decide)) (g := (mkF m 15 #[iv p1, iv p2, iv (0 : Int32), iv (3 : Int32), rv wD, .unset, .unset, .unset] [(.int (3 : Int32))])) rfl (by rw [hml]; rfl) (argsL := [(.int (3 : Int32))]) (rest := []) (lenOf pd__I_Lcom_example_meerkat_meerkat_ObjectKind_ rfl) rfl (by show 2 * 0 + _ ≤ _; exact Nat.le_of_eq rfl) (hb hby at_15) (fun _ _ => ⟨rfl, e10, (by decide : 0 + 0 ≤ _), (by decide : 0 + 0 ≤ _)⟩)
      dsimp only [Pt.U, Pt.locs, Pt.cells, Pt.slots] at X11 l11 y11 z11 st11 hQ11
      subst l11 y11 z11
      obtain ⟨rfl, N11q, e11⟩ := hQ11
      have N11 := Fr.app N10 N11q
      refine own_go ?_ (fun target hr => st11 _ (XS.astore X11.here hx rfl (hb hby at_18) rfl rfl (l' := #[iv p1, iv p2, iv (0 : Int32), iv (3 : Int32), rv wD, rv wV, .unset, .unset]) rfl (X11.ldcI hx hown (mvT hZ (hw _ (List.mem_of_getElem? (i := 9) rfl))) rfl (hb hby at_20) (XS.istore X11.here hx rfl (hb hby at_22) rfl (l' := #[iv p1, iv p2, iv (0 : Int32), iv (3 : Int32), rv wD, rv wV, iv (35873 : Int32), .unset]) rfl (XS.iload X11.here hx rfl (hb hby at_24) rfl (XS.iloadN X11.here hx rfl (hb hby at_26) rfl (XS.iconst X11.here hx rfl (hb hby at_27) (XS.imul X11.here hx rfl (hb hby at_28) rfl hr))))))))
      show own_G _ p e below s _ _ _ (T11.setTop (mkF m 29 #[iv p1, iv p2, iv (0 : Int32), iv (3 : Int32), rv wD, rv wV, iv (35873 : Int32), .unset] [(.int (0 : Int32)), (.int (35873 : Int32))]))
      refine own_go ?_ (fun target hr => XS.iloadN X11.here hx rfl (hb hby at_29) rfl (XS.iadd X11.here hx rfl (hb hby at_30) rfl (XS.iushr X11.here hx rfl (hb hby at_31) rfl (XS.iconst X11.here hx rfl (hb hby at_32) (XS.iand X11.here hx rfl (hb hby at_33) rfl (XS.ifYes X11.here hx rfl (pc0 := 34) (pc' := 41) rfl (hb hby at_34) rfl ((if0 _ _).trans (teq (by decide : (0 : Int32) = (0 : Int32))).1) (by decide) (by decide) (XS.iconst X11.here hx rfl (hb hby at_41) (XS.istore X11.here hx rfl (hb hby at_42) rfl (l' := #[iv p1, iv p2, iv (0 : Int32), iv (3 : Int32), rv wD, rv wV, iv (35873 : Int32), iv (0 : Int32)]) rfl hr))))))))
      show own_G _ p e below s _ _ _ (T11.setTop (mkF m 44 #[iv p1, iv p2, iv (0 : Int32), iv (3 : Int32), rv wD, rv wV, iv (35873 : Int32), iv (0 : Int32)] []))
      refine own_go ?_ (fun target hr => XS.aload X11.here hx rfl (hb hby at_44) rfl rfl (XS.aload X11.here hx rfl (hb hby at_46) rfl rfl hr))
      show own_G _ p e below s _ _ _ (T11.setTop (mkF m 48 #[iv p1, iv p2, iv (0 : Int32), iv (3 : Int32), rv wD, rv wV, iv (35873 : Int32), iv (0 : Int32)] [(.ref wV), (.ref wD)]))
      obtain ⟨cq12, kq12, q12a, q12b, q12c⟩ := isOf hZ e11 E_wD
      obtain ⟨_, _, ⟨T12, L12, k12, n12⟩, -, X12, ⟨Lc12, hQ12, l12, y12, z12⟩, st12⟩ := X11.virtualBack hx (y := (⟨"com/example/meerkat/meerkat/ObjectKind", "names", "(Lcom/example/meerkat/meerkat/ObjectKind;)Z"⟩ : MethodName)) (z := (⟨"com/example/meerkat/meerkat/ObjectKind", "names", "(Lcom/example/meerkat/meerkat/ObjectKind;)Z"⟩ : MethodName)) hown (mvT hZ (hw _ (List.mem_of_getElem? (i := 10) rfl))) (mvT hZ (hw _ (List.mem_of_getElem? (i := 11) rfl))) (notFace_of_selects (args := #[]) (mvT hZ (hw _ (List.mem_of_getElem? (i := 13) rfl)))) (mvT hZ (hw _ (List.mem_of_getElem? (i := 13) rfl))) (mvT hZ (hw _ (List.mem_of_getElem? (i := 12) rfl))) (by decide) (backOf (W := 0) (rm2_n l Z a0 hw [] wD wV wT h0 n0 Z0 S_TABLE n_wV_wD n_wD_wT) hZ (hw _ (List.mem_of_getElem? (i := 14) rfl)) (hw _ (List.mem_of_getElem? (i := 5) rfl)) (by decide) (by decide)) q12a q12c (g := (mkF m 48 #[iv p1, iv p2, iv (0 : Int32), iv (3 : Int32), rv wD, rv wV, iv (35873 : Int32), iv (0 : Int32)] [(.ref wV), (.ref wD)])) rfl (by rw [hml]; rfl) (Steps.refl _) (argsL := [(.ref wV)]) (rest := []) (lenOf pd__Lcom_example_meerkat_meerkat_ObjectKind__Z rfl) rfl (by show 2 * 0 + _ ≤ _; exact Nat.le_of_eq rfl) (hb hby at_48) (fun _ _ => ⟨rfl, e11, (by decide : 0 + 0 ≤ _), (by decide : 0 + 0 ≤ _)⟩)
      dsimp only [Pt.U, Pt.locs, Pt.cells, Pt.slots] at X12 l12 y12 z12 st12 hQ12
      subst l12 y12 z12
      obtain ⟨rfl, N12q, e12⟩ := hQ12
      have N12 := Fr.app N11 N12q
      refine own_go ?_ (fun target hr => st12.trans (XS.iload X12.here hx rfl (hb hby at_51) rfl (XS.icmpNo X12.here hx rfl (hb hby at_53) rfl (teq (by decide : (0 : Int32) = (0 : Int32))).2 (XS.iconst X12.here hx rfl (hb hby at_56) (XS.goto X12.here hx rfl (pc0 := 57) (pc' := 61) rfl (hb hby at_57) (by decide) (by decide) hr)))))
      show own_G _ p e below s _ _ _ (T12.setTop (mkF m 61 #[iv p1, iv p2, iv (0 : Int32), iv (3 : Int32), rv wD, rv wV, iv (35873 : Int32), iv (0 : Int32)] [(.int (1 : Int32))]))
      obtain ⟨fs, hr, hrun, hended, hW, hsame⟩ := X12.leave (v := some (.int (1 : Int32))) (fun h => by rw [Bd.returns] at h; cases h)
      exact ⟨_, _, retN X12 hx (t := .boolean) Bd.returns (by simp) (hb hby at_61) hr, hrun, hended, _, _, rfl, ⟨rfl, N12, trivial⟩, ⟨_, rfl⟩, hW, hsame.mono (by decide) (by decide)⟩
  ·
    rw [hs3_1]
    show own_G _ p e below s _ _ _ (s₁.setTop (mkF m 3 #[iv p1, iv p2, .unset, .unset, .unset, .unset, .unset, .unset] [(.int (1 : Int32))]))
    refine own_go ?_ (fun target hr => XS.istoreN X0.here hx rfl (hb hby at_3) rfl (l' := #[iv p1, iv p2, iv (1 : Int32), .unset, .unset, .unset, .unset, .unset]) rfl (XS.iloadN X0.here hx rfl (hb hby at_4) rfl (XS.iconst X0.here hx rfl (hb hby at_5) (XS.iand X0.here hx rfl (hb hby at_6) rfl hr))))
    show own_G _ p e below s _ _ _ (s₁.setTop (mkF m 7 #[iv p1, iv p2, iv (1 : Int32), .unset, .unset, .unset, .unset, .unset] [(.int (p2 &&& (3 : Int32)))]))
    rcases own_and3 p2 with hs7_0 | hs7_1 | hs7_2 | hs7_3
    ·
      rw [hs7_0]
      show own_G _ p e below s _ _ _ (s₁.setTop (mkF m 7 #[iv p1, iv p2, iv (1 : Int32), .unset, .unset, .unset, .unset, .unset] [(.int (0 : Int32))]))
      refine own_go ?_ (fun target hr => XS.istoreN X0.here hx rfl (hb hby at_7) rfl (l' := #[iv p1, iv p2, iv (1 : Int32), iv (0 : Int32), .unset, .unset, .unset, .unset]) rfl (XS.iloadN X0.here hx rfl (hb hby at_8) rfl hr))
      show own_G _ p e below s _ _ _ (s₁.setTop (mkF m 9 #[iv p1, iv p2, iv (1 : Int32), iv (0 : Int32), .unset, .unset, .unset, .unset] [(.int (1 : Int32))]))
      obtain ⟨_, _, ⟨T13, L13, k13, n13⟩, -, X13, ⟨Lc13, hQ13, l13, y13, z13⟩, st13⟩ := Jvm.LawKit.callS X0 hx (y := (⟨"com/example/meerkat/meerkat/ObjectKindNamesPinLaw", "kind", "(I)Lcom/example/meerkat/meerkat/ObjectKind;"⟩ : MethodName)) hown (mvT hZ (hw _ (List.mem_of_getElem? (i := 0) rfl))) (mvT hZ (hw _ (List.mem_of_getElem? (i := 1) rfl))) (mvT hZ (hw _ (List.mem_of_getElem? (i := 2) rfl))) (mvT hZ (hw _ (List.mem_of_getElem? (i := 3) rfl))) (by decide) (backOf (W := 0) (rm1_1 l Z a0 hw [] wS h0 n0 Z0 S_SCHEMA) hZ (hw _ (List.mem_of_getElem? (i := 3) rfl)) (hw _ (List.mem_of_getElem? (i := 2) rfl)) (by decide) (by decide)) (g := (mkF m 9 #[iv p1, iv p2, iv (1 : Int32), iv (0 : Int32), .unset, .unset, .unset, .unset] [(.int (1 : Int32))])) rfl (by rw [hml]; rfl) (argsL := [(.int (1 : Int32))]) (rest := []) (lenOf pd__I_Lcom_example_meerkat_meerkat_ObjectKind_ rfl) rfl (by show 2 * 0 + _ ≤ _; exact Nat.le_of_eq rfl) (hb hby at_9) (fun _ _ => ⟨rfl, e0, (by decide : 0 + 0 ≤ _), (by decide : 0 + 0 ≤ _)⟩)
      dsimp only [Pt.U, Pt.locs, Pt.cells, Pt.slots] at X13 l13 y13 z13 st13 hQ13
      subst l13 y13 z13
      obtain ⟨rfl, N13q, e13⟩ := hQ13
      have N13 := Fr.app N0 N13q
      refine own_go ?_ (fun target hr => st13 _ (XS.astore X13.here hx rfl (hb hby at_12) rfl rfl (l' := #[iv p1, iv p2, iv (1 : Int32), iv (0 : Int32), rv wS, .unset, .unset, .unset]) rfl (XS.iloadN X13.here hx rfl (hb hby at_14) rfl hr)))
      show own_G _ p e below s _ _ _ (T13.setTop (mkF m 15 #[iv p1, iv p2, iv (1 : Int32), iv (0 : Int32), rv wS, .unset, .unset, .unset] [(.int (0 : Int32))]))
      obtain ⟨_, _, ⟨T14, L14, k14, n14⟩, -, X14, ⟨Lc14, hQ14, l14, y14, z14⟩, st14⟩ := Jvm.LawKit.callS X13 hx (y := (⟨"com/example/meerkat/meerkat/ObjectKindNamesPinLaw", "kind", "(I)Lcom/example/meerkat/meerkat/ObjectKind;"⟩ : MethodName)) hown (mvT hZ (hw _ (List.mem_of_getElem? (i := 0) rfl))) (mvT hZ (hw _ (List.mem_of_getElem? (i := 1) rfl))) (mvT hZ (hw _ (List.mem_of_getElem? (i := 2) rfl))) (mvT hZ (hw _ (List.mem_of_getElem? (i := 3) rfl))) (by decide) (backOf (W := 0) (rm1_0 l Z a0 hw [] wD h0 n0 Z0 S_DATABASE) hZ (hw _ (List.mem_of_getElem? (i := 3) rfl)) (hw _ (List.mem_of_getElem? (i := 2) rfl)) (by decide) (by decide)) (g := (mkF m 15 #[iv p1, iv p2, iv (1 : Int32), iv (0 : Int32), rv wS, .unset, .unset, .unset] [(.int (0 : Int32))])) rfl (by rw [hml]; rfl) (argsL := [(.int (0 : Int32))]) (rest := []) (lenOf pd__I_Lcom_example_meerkat_meerkat_ObjectKind_ rfl) rfl (by show 2 * 0 + _ ≤ _; exact Nat.le_of_eq rfl) (hb hby at_15) (fun _ _ => ⟨rfl, e13, (by decide : 0 + 0 ≤ _), (by decide : 0 + 0 ≤ _)⟩)
      dsimp only [Pt.U, Pt.locs, Pt.cells, Pt.slots] at X14 l14 y14 z14 st14 hQ14
      subst l14 y14 z14
      obtain ⟨rfl, N14q, e14⟩ := hQ14
      have N14 := Fr.app N13 N14q
      refine own_go ?_ (fun target hr => st14 _ (XS.astore X14.here hx rfl (hb hby at_18) rfl rfl (l' := #[iv p1, iv p2, iv (1 : Int32), iv (0 : Int32), rv wS, rv wD, .unset, .unset]) rfl (X14.ldcI hx hown (mvT hZ (hw _ (List.mem_of_getElem? (i := 9) rfl))) rfl (hb hby at_20) (XS.istore X14.here hx rfl (hb hby at_22) rfl (l' := #[iv p1, iv p2, iv (1 : Int32), iv (0 : Int32), rv wS, rv wD, iv (35873 : Int32), .unset]) rfl (XS.iload X14.here hx rfl (hb hby at_24) rfl (XS.iloadN X14.here hx rfl (hb hby at_26) rfl (XS.iconst X14.here hx rfl (hb hby at_27) (XS.imul X14.here hx rfl (hb hby at_28) rfl hr))))))))
      show own_G _ p e below s _ _ _ (T14.setTop (mkF m 29 #[iv p1, iv p2, iv (1 : Int32), iv (0 : Int32), rv wS, rv wD, iv (35873 : Int32), .unset] [(.int (4 : Int32)), (.int (35873 : Int32))]))
      refine own_go ?_ (fun target hr => XS.iloadN X14.here hx rfl (hb hby at_29) rfl (XS.iadd X14.here hx rfl (hb hby at_30) rfl (XS.iushr X14.here hx rfl (hb hby at_31) rfl (XS.iconst X14.here hx rfl (hb hby at_32) (XS.iand X14.here hx rfl (hb hby at_33) rfl (XS.ifYes X14.here hx rfl (pc0 := 34) (pc' := 41) rfl (hb hby at_34) rfl ((if0 _ _).trans (teq (by decide : (0 : Int32) = (0 : Int32))).1) (by decide) (by decide) (XS.iconst X14.here hx rfl (hb hby at_41) (XS.istore X14.here hx rfl (hb hby at_42) rfl (l' := #[iv p1, iv p2, iv (1 : Int32), iv (0 : Int32), rv wS, rv wD, iv (35873 : Int32), iv (0 : Int32)]) rfl hr))))))))
      show own_G _ p e below s _ _ _ (T14.setTop (mkF m 44 #[iv p1, iv p2, iv (1 : Int32), iv (0 : Int32), rv wS, rv wD, iv (35873 : Int32), iv (0 : Int32)] []))
      refine own_go ?_ (fun target hr => XS.aload X14.here hx rfl (hb hby at_44) rfl rfl (XS.aload X14.here hx rfl (hb hby at_46) rfl rfl hr))
      show own_G _ p e below s _ _ _ (T14.setTop (mkF m 48 #[iv p1, iv p2, iv (1 : Int32), iv (0 : Int32), rv wS, rv wD, iv (35873 : Int32), iv (0 : Int32)] [(.ref wD), (.ref wS)]))
      obtain ⟨cq15, kq15, q15a, q15b, q15c⟩ := isOf hZ e14 E_wS
      obtain ⟨_, _, ⟨T15, L15, k15, n15⟩, -, X15, ⟨Lc15, hQ15, l15, y15, z15⟩, st15⟩ := X14.virtualBack hx (y := (⟨"com/example/meerkat/meerkat/ObjectKind", "names", "(Lcom/example/meerkat/meerkat/ObjectKind;)Z"⟩ : MethodName)) (z := (⟨"com/example/meerkat/meerkat/ObjectKind", "names", "(Lcom/example/meerkat/meerkat/ObjectKind;)Z"⟩ : MethodName)) hown (mvT hZ (hw _ (List.mem_of_getElem? (i := 10) rfl))) (mvT hZ (hw _ (List.mem_of_getElem? (i := 11) rfl))) (notFace_of_selects (args := #[]) (mvT hZ (hw _ (List.mem_of_getElem? (i := 13) rfl)))) (mvT hZ (hw _ (List.mem_of_getElem? (i := 13) rfl))) (mvT hZ (hw _ (List.mem_of_getElem? (i := 12) rfl))) (by decide) (backOf (W := 0) (rm2_n l Z a0 hw [] wS wD wT h0 n0 Z0 S_TABLE n_wD_wS n_wS_wT) hZ (hw _ (List.mem_of_getElem? (i := 14) rfl)) (hw _ (List.mem_of_getElem? (i := 5) rfl)) (by decide) (by decide)) q15a q15c (g := (mkF m 48 #[iv p1, iv p2, iv (1 : Int32), iv (0 : Int32), rv wS, rv wD, iv (35873 : Int32), iv (0 : Int32)] [(.ref wD), (.ref wS)])) rfl (by rw [hml]; rfl) (Steps.refl _) (argsL := [(.ref wD)]) (rest := []) (lenOf pd__Lcom_example_meerkat_meerkat_ObjectKind__Z rfl) rfl (by show 2 * 0 + _ ≤ _; exact Nat.le_of_eq rfl) (hb hby at_48) (fun _ _ => ⟨rfl, e14, (by decide : 0 + 0 ≤ _), (by decide : 0 + 0 ≤ _)⟩)
      dsimp only [Pt.U, Pt.locs, Pt.cells, Pt.slots] at X15 l15 y15 z15 st15 hQ15
      subst l15 y15 z15
      obtain ⟨rfl, N15q, e15⟩ := hQ15
      have N15 := Fr.app N14 N15q
      refine own_go ?_ (fun target hr => st15.trans (XS.iload X15.here hx rfl (hb hby at_51) rfl (XS.icmpNo X15.here hx rfl (hb hby at_53) rfl (teq (by decide : (0 : Int32) = (0 : Int32))).2 (XS.iconst X15.here hx rfl (hb hby at_56) (XS.goto X15.here hx rfl (pc0 := 57) (pc' := 61) rfl (hb hby at_57) (by decide) (by decide) hr)))))
      show own_G _ p e below s _ _ _ (T15.setTop (mkF m 61 #[iv p1, iv p2, iv (1 : Int32), iv (0 : Int32), rv wS, rv wD, iv (35873 : Int32), iv (0 : Int32)] [(.int (1 : Int32))]))
      obtain ⟨fs, hr, hrun, hended, hW, hsame⟩ := X15.leave (v := some (.int (1 : Int32))) (fun h => by rw [Bd.returns] at h; cases h)
      exact ⟨_, _, retN X15 hx (t := .boolean) Bd.returns (by simp) (hb hby at_61) hr, hrun, hended, _, _, rfl, ⟨rfl, N15, trivial⟩, ⟨_, rfl⟩, hW, hsame.mono (by decide) (by decide)⟩
    ·
      rw [hs7_1]
      show own_G _ p e below s _ _ _ (s₁.setTop (mkF m 7 #[iv p1, iv p2, iv (1 : Int32), .unset, .unset, .unset, .unset, .unset] [(.int (1 : Int32))]))
      refine own_go ?_ (fun target hr => XS.istoreN X0.here hx rfl (hb hby at_7) rfl (l' := #[iv p1, iv p2, iv (1 : Int32), iv (1 : Int32), .unset, .unset, .unset, .unset]) rfl (XS.iloadN X0.here hx rfl (hb hby at_8) rfl hr))
      show own_G _ p e below s _ _ _ (s₁.setTop (mkF m 9 #[iv p1, iv p2, iv (1 : Int32), iv (1 : Int32), .unset, .unset, .unset, .unset] [(.int (1 : Int32))]))
      obtain ⟨_, _, ⟨T16, L16, k16, n16⟩, -, X16, ⟨Lc16, hQ16, l16, y16, z16⟩, st16⟩ := Jvm.LawKit.callS X0 hx (y := (⟨"com/example/meerkat/meerkat/ObjectKindNamesPinLaw", "kind", "(I)Lcom/example/meerkat/meerkat/ObjectKind;"⟩ : MethodName)) hown (mvT hZ (hw _ (List.mem_of_getElem? (i := 0) rfl))) (mvT hZ (hw _ (List.mem_of_getElem? (i := 1) rfl))) (mvT hZ (hw _ (List.mem_of_getElem? (i := 2) rfl))) (mvT hZ (hw _ (List.mem_of_getElem? (i := 3) rfl))) (by decide) (backOf (W := 0) (rm1_1 l Z a0 hw [] wS h0 n0 Z0 S_SCHEMA) hZ (hw _ (List.mem_of_getElem? (i := 3) rfl)) (hw _ (List.mem_of_getElem? (i := 2) rfl)) (by decide) (by decide)) (g := (mkF m 9 #[iv p1, iv p2, iv (1 : Int32), iv (1 : Int32), .unset, .unset, .unset, .unset] [(.int (1 : Int32))])) rfl (by rw [hml]; rfl) (argsL := [(.int (1 : Int32))]) (rest := []) (lenOf pd__I_Lcom_example_meerkat_meerkat_ObjectKind_ rfl) rfl (by show 2 * 0 + _ ≤ _; exact Nat.le_of_eq rfl) (hb hby at_9) (fun _ _ => ⟨rfl, e0, (by decide : 0 + 0 ≤ _), (by decide : 0 + 0 ≤ _)⟩)
      dsimp only [Pt.U, Pt.locs, Pt.cells, Pt.slots] at X16 l16 y16 z16 st16 hQ16
      subst l16 y16 z16
      obtain ⟨rfl, N16q, e16⟩ := hQ16
      have N16 := Fr.app N0 N16q
      refine own_go ?_ (fun target hr => st16 _ (XS.astore X16.here hx rfl (hb hby at_12) rfl rfl (l' := #[iv p1, iv p2, iv (1 : Int32), iv (1 : Int32), rv wS, .unset, .unset, .unset]) rfl (XS.iloadN X16.here hx rfl (hb hby at_14) rfl hr)))
      show own_G _ p e below s _ _ _ (T16.setTop (mkF m 15 #[iv p1, iv p2, iv (1 : Int32), iv (1 : Int32), rv wS, .unset, .unset, .unset] [(.int (1 : Int32))]))
      obtain ⟨_, _, ⟨T17, L17, k17, n17⟩, -, X17, ⟨Lc17, hQ17, l17, y17, z17⟩, st17⟩ := Jvm.LawKit.callS X16 hx (y := (⟨"com/example/meerkat/meerkat/ObjectKindNamesPinLaw", "kind", "(I)Lcom/example/meerkat/meerkat/ObjectKind;"⟩ : MethodName)) hown (mvT hZ (hw _ (List.mem_of_getElem? (i := 0) rfl))) (mvT hZ (hw _ (List.mem_of_getElem? (i := 1) rfl))) (mvT hZ (hw _ (List.mem_of_getElem? (i := 2) rfl))) (mvT hZ (hw _ (List.mem_of_getElem? (i := 3) rfl))) (by decide) (backOf (W := 0) (rm1_1 l Z a0 hw [] wS h0 n0 Z0 S_SCHEMA) hZ (hw _ (List.mem_of_getElem? (i := 3) rfl)) (hw _ (List.mem_of_getElem? (i := 2) rfl)) (by decide) (by decide)) (g := (mkF m 15 #[iv p1, iv p2, iv (1 : Int32), iv (1 : Int32), rv wS, .unset, .unset, .unset] [(.int (1 : Int32))])) rfl (by rw [hml]; rfl) (argsL := [(.int (1 : Int32))]) (rest := []) (lenOf pd__I_Lcom_example_meerkat_meerkat_ObjectKind_ rfl) rfl (by show 2 * 0 + _ ≤ _; exact Nat.le_of_eq rfl) (hb hby at_15) (fun _ _ => ⟨rfl, e16, (by decide : 0 + 0 ≤ _), (by decide : 0 + 0 ≤ _)⟩)
      dsimp only [Pt.U, Pt.locs, Pt.cells, Pt.slots] at X17 l17 y17 z17 st17 hQ17
      subst l17 y17 z17
      obtain ⟨rfl, N17q, e17⟩ := hQ17
      have N17 := Fr.app N16 N17q
      refine own_go ?_ (fun target hr => st17 _ (XS.astore X17.here hx rfl (hb hby at_18) rfl rfl (l' := #[iv p1, iv p2, iv (1 : Int32), iv (1 : Int32), rv wS, rv wS, .unset, .unset]) rfl (X17.ldcI hx hown (mvT hZ (hw _ (List.mem_of_getElem? (i := 9) rfl))) rfl (hb hby at_20) (XS.istore X17.here hx rfl (hb hby at_22) rfl (l' := #[iv p1, iv p2, iv (1 : Int32), iv (1 : Int32), rv wS, rv wS, iv (35873 : Int32), .unset]) rfl (XS.iload X17.here hx rfl (hb hby at_24) rfl (XS.iloadN X17.here hx rfl (hb hby at_26) rfl (XS.iconst X17.here hx rfl (hb hby at_27) (XS.imul X17.here hx rfl (hb hby at_28) rfl hr))))))))
      show own_G _ p e below s _ _ _ (T17.setTop (mkF m 29 #[iv p1, iv p2, iv (1 : Int32), iv (1 : Int32), rv wS, rv wS, iv (35873 : Int32), .unset] [(.int (4 : Int32)), (.int (35873 : Int32))]))
      refine own_go ?_ (fun target hr => XS.iloadN X17.here hx rfl (hb hby at_29) rfl (XS.iadd X17.here hx rfl (hb hby at_30) rfl (XS.iushr X17.here hx rfl (hb hby at_31) rfl (XS.iconst X17.here hx rfl (hb hby at_32) (XS.iand X17.here hx rfl (hb hby at_33) rfl (XS.ifNo X17.here hx rfl (hb hby at_34) rfl ((if0 _ _).trans (feq (by decide : ¬ ((1 : Int32) = (0 : Int32)))).1) (XS.iconst X17.here hx rfl (hb hby at_37) (XS.goto X17.here hx rfl (pc0 := 38) (pc' := 42) rfl (hb hby at_38) (by decide) (by decide) hr))))))))
      show own_G _ p e below s _ _ _ (T17.setTop (mkF m 42 #[iv p1, iv p2, iv (1 : Int32), iv (1 : Int32), rv wS, rv wS, iv (35873 : Int32), .unset] [(.int (1 : Int32))]))
      refine own_go ?_ (fun target hr => XS.istore X17.here hx rfl (hb hby at_42) rfl (l' := #[iv p1, iv p2, iv (1 : Int32), iv (1 : Int32), rv wS, rv wS, iv (35873 : Int32), iv (1 : Int32)]) rfl (XS.aload X17.here hx rfl (hb hby at_44) rfl rfl (XS.aload X17.here hx rfl (hb hby at_46) rfl rfl hr)))
      show own_G _ p e below s _ _ _ (T17.setTop (mkF m 48 #[iv p1, iv p2, iv (1 : Int32), iv (1 : Int32), rv wS, rv wS, iv (35873 : Int32), iv (1 : Int32)] [(.ref wS), (.ref wS)]))
      obtain ⟨cq18, kq18, q18a, q18b, q18c⟩ := isOf hZ e17 E_wS
      obtain ⟨_, _, ⟨T18, L18, k18, n18⟩, -, X18, ⟨Lc18, hQ18, l18, y18, z18⟩, st18⟩ := X17.virtualBack hx (y := (⟨"com/example/meerkat/meerkat/ObjectKind", "names", "(Lcom/example/meerkat/meerkat/ObjectKind;)Z"⟩ : MethodName)) (z := (⟨"com/example/meerkat/meerkat/ObjectKind", "names", "(Lcom/example/meerkat/meerkat/ObjectKind;)Z"⟩ : MethodName)) hown (mvT hZ (hw _ (List.mem_of_getElem? (i := 10) rfl))) (mvT hZ (hw _ (List.mem_of_getElem? (i := 11) rfl))) (notFace_of_selects (args := #[]) (mvT hZ (hw _ (List.mem_of_getElem? (i := 13) rfl)))) (mvT hZ (hw _ (List.mem_of_getElem? (i := 13) rfl))) (mvT hZ (hw _ (List.mem_of_getElem? (i := 12) rfl))) (by decide) (backOf (W := 0) (rm2_s l Z a0 hw [] wS h0 n0 Z0 ) hZ (hw _ (List.mem_of_getElem? (i := 14) rfl)) (hw _ (List.mem_of_getElem? (i := 5) rfl)) (by decide) (by decide)) q18a q18c (g := (mkF m 48 #[iv p1, iv p2, iv (1 : Int32), iv (1 : Int32), rv wS, rv wS, iv (35873 : Int32), iv (1 : Int32)] [(.ref wS), (.ref wS)])) rfl (by rw [hml]; rfl) (Steps.refl _) (argsL := [(.ref wS)]) (rest := []) (lenOf pd__Lcom_example_meerkat_meerkat_ObjectKind__Z rfl) rfl (by show 2 * 0 + _ ≤ _; exact Nat.le_of_eq rfl) (hb hby at_48) (fun _ _ => ⟨rfl, e17, (by decide : 0 + 0 ≤ _), (by decide : 0 + 0 ≤ _)⟩)
      dsimp only [Pt.U, Pt.locs, Pt.cells, Pt.slots] at X18 l18 y18 z18 st18 hQ18
      subst l18 y18 z18
      obtain ⟨rfl, N18q, e18⟩ := hQ18
      have N18 := Fr.app N17 N18q
      refine own_go ?_ (fun target hr => st18.trans (XS.iload X18.here hx rfl (hb hby at_51) rfl (XS.icmpNo X18.here hx rfl (hb hby at_53) rfl (teq (by decide : (1 : Int32) = (1 : Int32))).2 (XS.iconst X18.here hx rfl (hb hby at_56) (XS.goto X18.here hx rfl (pc0 := 57) (pc' := 61) rfl (hb hby at_57) (by decide) (by decide) hr)))))
      show own_G _ p e below s _ _ _ (T18.setTop (mkF m 61 #[iv p1, iv p2, iv (1 : Int32), iv (1 : Int32), rv wS, rv wS, iv (35873 : Int32), iv (1 : Int32)] [(.int (1 : Int32))]))
      obtain ⟨fs, hr, hrun, hended, hW, hsame⟩ := X18.leave (v := some (.int (1 : Int32))) (fun h => by rw [Bd.returns] at h; cases h)
      exact ⟨_, _, retN X18 hx (t := .boolean) Bd.returns (by simp) (hb hby at_61) hr, hrun, hended, _, _, rfl, ⟨rfl, N18, trivial⟩, ⟨_, rfl⟩, hW, hsame.mono (by decide) (by decide)⟩
    ·
      rw [hs7_2]
      show own_G _ p e below s _ _ _ (s₁.setTop (mkF m 7 #[iv p1, iv p2, iv (1 : Int32), .unset, .unset, .unset, .unset, .unset] [(.int (2 : Int32))]))
      refine own_go ?_ (fun target hr => XS.istoreN X0.here hx rfl (hb hby at_7) rfl (l' := #[iv p1, iv p2, iv (1 : Int32), iv (2 : Int32), .unset, .unset, .unset, .unset]) rfl (XS.iloadN X0.here hx rfl (hb hby at_8) rfl hr))
      show own_G _ p e below s _ _ _ (s₁.setTop (mkF m 9 #[iv p1, iv p2, iv (1 : Int32), iv (2 : Int32), .unset, .unset, .unset, .unset] [(.int (1 : Int32))]))
      obtain ⟨_, _, ⟨T19, L19, k19, n19⟩, -, X19, ⟨Lc19, hQ19, l19, y19, z19⟩, st19⟩ := Jvm.LawKit.callS X0 hx (y := (⟨"com/example/meerkat/meerkat/ObjectKindNamesPinLaw", "kind", "(I)Lcom/example/meerkat/meerkat/ObjectKind;"⟩ : MethodName)) hown (mvT hZ (hw _ (List.mem_of_getElem? (i := 0) rfl))) (mvT hZ (hw _ (List.mem_of_getElem? (i := 1) rfl))) (mvT hZ (hw _ (List.mem_of_getElem? (i := 2) rfl))) (mvT hZ (hw _ (List.mem_of_getElem? (i := 3) rfl))) (by decide) (backOf (W := 0) (rm1_1 l Z a0 hw [] wS h0 n0 Z0 S_SCHEMA) hZ (hw _ (List.mem_of_getElem? (i := 3) rfl)) (hw _ (List.mem_of_getElem? (i := 2) rfl)) (by decide) (by decide)) (g := (mkF m 9 #[iv p1, iv p2, iv (1 : Int32), iv (2 : Int32), .unset, .unset, .unset, .unset] [(.int (1 : Int32))])) rfl (by rw [hml]; rfl) (argsL := [(.int (1 : Int32))]) (rest := []) (lenOf pd__I_Lcom_example_meerkat_meerkat_ObjectKind_ rfl) rfl (by show 2 * 0 + _ ≤ _; exact Nat.le_of_eq rfl) (hb hby at_9) (fun _ _ => ⟨rfl, e0, (by decide : 0 + 0 ≤ _), (by decide : 0 + 0 ≤ _)⟩)
      dsimp only [Pt.U, Pt.locs, Pt.cells, Pt.slots] at X19 l19 y19 z19 st19 hQ19
      subst l19 y19 z19
      obtain ⟨rfl, N19q, e19⟩ := hQ19
      have N19 := Fr.app N0 N19q
      refine own_go ?_ (fun target hr => st19 _ (XS.astore X19.here hx rfl (hb hby at_12) rfl rfl (l' := #[iv p1, iv p2, iv (1 : Int32), iv (2 : Int32), rv wS, .unset, .unset, .unset]) rfl (XS.iloadN X19.here hx rfl (hb hby at_14) rfl hr)))
      show own_G _ p e below s _ _ _ (T19.setTop (mkF m 15 #[iv p1, iv p2, iv (1 : Int32), iv (2 : Int32), rv wS, .unset, .unset, .unset] [(.int (2 : Int32))]))
      obtain ⟨_, _, ⟨T20, L20, k20, n20⟩, -, X20, ⟨Lc20, hQ20, l20, y20, z20⟩, st20⟩ := Jvm.LawKit.callS X19 hx (y := (⟨"com/example/meerkat/meerkat/ObjectKindNamesPinLaw", "kind", "(I)Lcom/example/meerkat/meerkat/ObjectKind;"⟩ : MethodName)) hown (mvT hZ (hw _ (List.mem_of_getElem? (i := 0) rfl))) (mvT hZ (hw _ (List.mem_of_getElem? (i := 1) rfl))) (mvT hZ (hw _ (List.mem_of_getElem? (i := 2) rfl))) (mvT hZ (hw _ (List.mem_of_getElem? (i := 3) rfl))) (by decide) (backOf (W := 0) (rm1_2 l Z a0 hw [] wT h0 n0 Z0 S_TABLE) hZ (hw _ (List.mem_of_getElem? (i := 3) rfl)) (hw _ (List.mem_of_getElem? (i := 2) rfl)) (by decide) (by decide)) (g := (mkF m 15 #[iv p1, iv p2, iv (1 : Int32), iv (2 : Int32), rv wS, .unset, .unset, .unset] [(.int (2 : Int32))])) rfl (by rw [hml]; rfl) (argsL := [(.int (2 : Int32))]) (rest := []) (lenOf pd__I_Lcom_example_meerkat_meerkat_ObjectKind_ rfl) rfl (by show 2 * 0 + _ ≤ _; exact Nat.le_of_eq rfl) (hb hby at_15) (fun _ _ => ⟨rfl, e19, (by decide : 0 + 0 ≤ _), (by decide : 0 + 0 ≤ _)⟩)
      dsimp only [Pt.U, Pt.locs, Pt.cells, Pt.slots] at X20 l20 y20 z20 st20 hQ20
      subst l20 y20 z20
      obtain ⟨rfl, N20q, e20⟩ := hQ20
      have N20 := Fr.app N19 N20q
      refine own_go ?_ (fun target hr => st20 _ (XS.astore X20.here hx rfl (hb hby at_18) rfl rfl (l' := #[iv p1, iv p2, iv (1 : Int32), iv (2 : Int32), rv wS, rv wT, .unset, .unset]) rfl (X20.ldcI hx hown (mvT hZ (hw _ (List.mem_of_getElem? (i := 9) rfl))) rfl (hb hby at_20) (XS.istore X20.here hx rfl (hb hby at_22) rfl (l' := #[iv p1, iv p2, iv (1 : Int32), iv (2 : Int32), rv wS, rv wT, iv (35873 : Int32), .unset]) rfl (XS.iload X20.here hx rfl (hb hby at_24) rfl (XS.iloadN X20.here hx rfl (hb hby at_26) rfl (XS.iconst X20.here hx rfl (hb hby at_27) (XS.imul X20.here hx rfl (hb hby at_28) rfl hr))))))))
      show own_G _ p e below s _ _ _ (T20.setTop (mkF m 29 #[iv p1, iv p2, iv (1 : Int32), iv (2 : Int32), rv wS, rv wT, iv (35873 : Int32), .unset] [(.int (4 : Int32)), (.int (35873 : Int32))]))
      refine own_go ?_ (fun target hr => XS.iloadN X20.here hx rfl (hb hby at_29) rfl (XS.iadd X20.here hx rfl (hb hby at_30) rfl (XS.iushr X20.here hx rfl (hb hby at_31) rfl (XS.iconst X20.here hx rfl (hb hby at_32) (XS.iand X20.here hx rfl (hb hby at_33) rfl (XS.ifYes X20.here hx rfl (pc0 := 34) (pc' := 41) rfl (hb hby at_34) rfl ((if0 _ _).trans (teq (by decide : (0 : Int32) = (0 : Int32))).1) (by decide) (by decide) (XS.iconst X20.here hx rfl (hb hby at_41) (XS.istore X20.here hx rfl (hb hby at_42) rfl (l' := #[iv p1, iv p2, iv (1 : Int32), iv (2 : Int32), rv wS, rv wT, iv (35873 : Int32), iv (0 : Int32)]) rfl hr))))))))
      show own_G _ p e below s _ _ _ (T20.setTop (mkF m 44 #[iv p1, iv p2, iv (1 : Int32), iv (2 : Int32), rv wS, rv wT, iv (35873 : Int32), iv (0 : Int32)] []))
      refine own_go ?_ (fun target hr => XS.aload X20.here hx rfl (hb hby at_44) rfl rfl (XS.aload X20.here hx rfl (hb hby at_46) rfl rfl hr))
      show own_G _ p e below s _ _ _ (T20.setTop (mkF m 48 #[iv p1, iv p2, iv (1 : Int32), iv (2 : Int32), rv wS, rv wT, iv (35873 : Int32), iv (0 : Int32)] [(.ref wT), (.ref wS)]))
      obtain ⟨cq21, kq21, q21a, q21b, q21c⟩ := isOf hZ e20 E_wS
      obtain ⟨_, _, ⟨T21, L21, k21, n21⟩, -, X21, ⟨Lc21, hQ21, l21, y21, z21⟩, st21⟩ := X20.virtualBack hx (y := (⟨"com/example/meerkat/meerkat/ObjectKind", "names", "(Lcom/example/meerkat/meerkat/ObjectKind;)Z"⟩ : MethodName)) (z := (⟨"com/example/meerkat/meerkat/ObjectKind", "names", "(Lcom/example/meerkat/meerkat/ObjectKind;)Z"⟩ : MethodName)) hown (mvT hZ (hw _ (List.mem_of_getElem? (i := 10) rfl))) (mvT hZ (hw _ (List.mem_of_getElem? (i := 11) rfl))) (notFace_of_selects (args := #[]) (mvT hZ (hw _ (List.mem_of_getElem? (i := 13) rfl)))) (mvT hZ (hw _ (List.mem_of_getElem? (i := 13) rfl))) (mvT hZ (hw _ (List.mem_of_getElem? (i := 12) rfl))) (by decide) (backOf (W := 0) (rm2_n l Z a0 hw [] wS wT wT h0 n0 Z0 S_TABLE n_wT_wS n_wS_wT) hZ (hw _ (List.mem_of_getElem? (i := 14) rfl)) (hw _ (List.mem_of_getElem? (i := 5) rfl)) (by decide) (by decide)) q21a q21c (g := (mkF m 48 #[iv p1, iv p2, iv (1 : Int32), iv (2 : Int32), rv wS, rv wT, iv (35873 : Int32), iv (0 : Int32)] [(.ref wT), (.ref wS)])) rfl (by rw [hml]; rfl) (Steps.refl _) (argsL := [(.ref wT)]) (rest := []) (lenOf pd__Lcom_example_meerkat_meerkat_ObjectKind__Z rfl) rfl (by show 2 * 0 + _ ≤ _; exact Nat.le_of_eq rfl) (hb hby at_48) (fun _ _ => ⟨rfl, e20, (by decide : 0 + 0 ≤ _), (by decide : 0 + 0 ≤ _)⟩)
      dsimp only [Pt.U, Pt.locs, Pt.cells, Pt.slots] at X21 l21 y21 z21 st21 hQ21
      subst l21 y21 z21
      obtain ⟨rfl, N21q, e21⟩ := hQ21
      have N21 := Fr.app N20 N21q
      refine own_go ?_ (fun target hr => st21.trans (XS.iload X21.here hx rfl (hb hby at_51) rfl (XS.icmpNo X21.here hx rfl (hb hby at_53) rfl (teq (by decide : (0 : Int32) = (0 : Int32))).2 (XS.iconst X21.here hx rfl (hb hby at_56) (XS.goto X21.here hx rfl (pc0 := 57) (pc' := 61) rfl (hb hby at_57) (by decide) (by decide) hr)))))
      show own_G _ p e below s _ _ _ (T21.setTop (mkF m 61 #[iv p1, iv p2, iv (1 : Int32), iv (2 : Int32), rv wS, rv wT, iv (35873 : Int32), iv (0 : Int32)] [(.int (1 : Int32))]))
      obtain ⟨fs, hr, hrun, hended, hW, hsame⟩ := X21.leave (v := some (.int (1 : Int32))) (fun h => by rw [Bd.returns] at h; cases h)
      exact ⟨_, _, retN X21 hx (t := .boolean) Bd.returns (by simp) (hb hby at_61) hr, hrun, hended, _, _, rfl, ⟨rfl, N21, trivial⟩, ⟨_, rfl⟩, hW, hsame.mono (by decide) (by decide)⟩
    ·
      rw [hs7_3]
      show own_G _ p e below s _ _ _ (s₁.setTop (mkF m 7 #[iv p1, iv p2, iv (1 : Int32), .unset, .unset, .unset, .unset, .unset] [(.int (3 : Int32))]))
      refine own_go ?_ (fun target hr => XS.istoreN X0.here hx rfl (hb hby at_7) rfl (l' := #[iv p1, iv p2, iv (1 : Int32), iv (3 : Int32), .unset, .unset, .unset, .unset]) rfl (XS.iloadN X0.here hx rfl (hb hby at_8) rfl hr))
      show own_G _ p e below s _ _ _ (s₁.setTop (mkF m 9 #[iv p1, iv p2, iv (1 : Int32), iv (3 : Int32), .unset, .unset, .unset, .unset] [(.int (1 : Int32))]))
      obtain ⟨_, _, ⟨T22, L22, k22, n22⟩, -, X22, ⟨Lc22, hQ22, l22, y22, z22⟩, st22⟩ := Jvm.LawKit.callS X0 hx (y := (⟨"com/example/meerkat/meerkat/ObjectKindNamesPinLaw", "kind", "(I)Lcom/example/meerkat/meerkat/ObjectKind;"⟩ : MethodName)) hown (mvT hZ (hw _ (List.mem_of_getElem? (i := 0) rfl))) (mvT hZ (hw _ (List.mem_of_getElem? (i := 1) rfl))) (mvT hZ (hw _ (List.mem_of_getElem? (i := 2) rfl))) (mvT hZ (hw _ (List.mem_of_getElem? (i := 3) rfl))) (by decide) (backOf (W := 0) (rm1_1 l Z a0 hw [] wS h0 n0 Z0 S_SCHEMA) hZ (hw _ (List.mem_of_getElem? (i := 3) rfl)) (hw _ (List.mem_of_getElem? (i := 2) rfl)) (by decide) (by decide)) (g := (mkF m 9 #[iv p1, iv p2, iv (1 : Int32), iv (3 : Int32), .unset, .unset, .unset, .unset] [(.int (1 : Int32))])) rfl (by rw [hml]; rfl) (argsL := [(.int (1 : Int32))]) (rest := []) (lenOf pd__I_Lcom_example_meerkat_meerkat_ObjectKind_ rfl) rfl (by show 2 * 0 + _ ≤ _; exact Nat.le_of_eq rfl) (hb hby at_9) (fun _ _ => ⟨rfl, e0, (by decide : 0 + 0 ≤ _), (by decide : 0 + 0 ≤ _)⟩)
      dsimp only [Pt.U, Pt.locs, Pt.cells, Pt.slots] at X22 l22 y22 z22 st22 hQ22
      subst l22 y22 z22
      obtain ⟨rfl, N22q, e22⟩ := hQ22
      have N22 := Fr.app N0 N22q
      refine own_go ?_ (fun target hr => st22 _ (XS.astore X22.here hx rfl (hb hby at_12) rfl rfl (l' := #[iv p1, iv p2, iv (1 : Int32), iv (3 : Int32), rv wS, .unset, .unset, .unset]) rfl (XS.iloadN X22.here hx rfl (hb hby at_14) rfl hr)))
      show own_G _ p e below s _ _ _ (T22.setTop (mkF m 15 #[iv p1, iv p2, iv (1 : Int32), iv (3 : Int32), rv wS, .unset, .unset, .unset] [(.int (3 : Int32))]))
      obtain ⟨_, _, ⟨T23, L23, k23, n23⟩, -, X23, ⟨Lc23, hQ23, l23, y23, z23⟩, st23⟩ := Jvm.LawKit.callS X22 hx (y := (⟨"com/example/meerkat/meerkat/ObjectKindNamesPinLaw", "kind", "(I)Lcom/example/meerkat/meerkat/ObjectKind;"⟩ : MethodName)) hown (mvT hZ (hw _ (List.mem_of_getElem? (i := 0) rfl))) (mvT hZ (hw _ (List.mem_of_getElem? (i := 1) rfl))) (mvT hZ (hw _ (List.mem_of_getElem? (i := 2) rfl))) (mvT hZ (hw _ (List.mem_of_getElem? (i := 3) rfl))) (by decide) (backOf (W := 0) (rm1_3 l Z a0 hw [] wV h0 n0 Z0 S_VIEW) hZ (hw _ (List.mem_of_getElem? (i := 3) rfl)) (hw _ (List.mem_of_getElem? (i := 2) rfl)) (by decide) (by decide)) (g := (mkF m 15 #[iv p1, iv p2, iv (1 : Int32), iv (3 : Int32), rv wS, .unset, .unset, .unset] [(.int (3 : Int32))])) rfl (by rw [hml]; rfl) (argsL := [(.int (3 : Int32))]) (rest := []) (lenOf pd__I_Lcom_example_meerkat_meerkat_ObjectKind_ rfl) rfl (by show 2 * 0 + _ ≤ _; exact Nat.le_of_eq rfl) (hb hby at_15) (fun _ _ => ⟨rfl, e22, (by decide : 0 + 0 ≤ _), (by decide : 0 + 0 ≤ _)⟩)
      dsimp only [Pt.U, Pt.locs, Pt.cells, Pt.slots] at X23 l23 y23 z23 st23 hQ23
      subst l23 y23 z23
      obtain ⟨rfl, N23q, e23⟩ := hQ23
      have N23 := Fr.app N22 N23q
      refine own_go ?_ (fun target hr => st23 _ (XS.astore X23.here hx rfl (hb hby at_18) rfl rfl (l' := #[iv p1, iv p2, iv (1 : Int32), iv (3 : Int32), rv wS, rv wV, .unset, .unset]) rfl (X23.ldcI hx hown (mvT hZ (hw _ (List.mem_of_getElem? (i := 9) rfl))) rfl (hb hby at_20) (XS.istore X23.here hx rfl (hb hby at_22) rfl (l' := #[iv p1, iv p2, iv (1 : Int32), iv (3 : Int32), rv wS, rv wV, iv (35873 : Int32), .unset]) rfl (XS.iload X23.here hx rfl (hb hby at_24) rfl (XS.iloadN X23.here hx rfl (hb hby at_26) rfl (XS.iconst X23.here hx rfl (hb hby at_27) (XS.imul X23.here hx rfl (hb hby at_28) rfl hr))))))))
      show own_G _ p e below s _ _ _ (T23.setTop (mkF m 29 #[iv p1, iv p2, iv (1 : Int32), iv (3 : Int32), rv wS, rv wV, iv (35873 : Int32), .unset] [(.int (4 : Int32)), (.int (35873 : Int32))]))
      refine own_go ?_ (fun target hr => XS.iloadN X23.here hx rfl (hb hby at_29) rfl (XS.iadd X23.here hx rfl (hb hby at_30) rfl (XS.iushr X23.here hx rfl (hb hby at_31) rfl (XS.iconst X23.here hx rfl (hb hby at_32) (XS.iand X23.here hx rfl (hb hby at_33) rfl (XS.ifYes X23.here hx rfl (pc0 := 34) (pc' := 41) rfl (hb hby at_34) rfl ((if0 _ _).trans (teq (by decide : (0 : Int32) = (0 : Int32))).1) (by decide) (by decide) (XS.iconst X23.here hx rfl (hb hby at_41) (XS.istore X23.here hx rfl (hb hby at_42) rfl (l' := #[iv p1, iv p2, iv (1 : Int32), iv (3 : Int32), rv wS, rv wV, iv (35873 : Int32), iv (0 : Int32)]) rfl hr))))))))
      show own_G _ p e below s _ _ _ (T23.setTop (mkF m 44 #[iv p1, iv p2, iv (1 : Int32), iv (3 : Int32), rv wS, rv wV, iv (35873 : Int32), iv (0 : Int32)] []))
      refine own_go ?_ (fun target hr => XS.aload X23.here hx rfl (hb hby at_44) rfl rfl (XS.aload X23.here hx rfl (hb hby at_46) rfl rfl hr))
      show own_G _ p e below s _ _ _ (T23.setTop (mkF m 48 #[iv p1, iv p2, iv (1 : Int32), iv (3 : Int32), rv wS, rv wV, iv (35873 : Int32), iv (0 : Int32)] [(.ref wV), (.ref wS)]))
      obtain ⟨cq24, kq24, q24a, q24b, q24c⟩ := isOf hZ e23 E_wS
      obtain ⟨_, _, ⟨T24, L24, k24, n24⟩, -, X24, ⟨Lc24, hQ24, l24, y24, z24⟩, st24⟩ := X23.virtualBack hx (y := (⟨"com/example/meerkat/meerkat/ObjectKind", "names", "(Lcom/example/meerkat/meerkat/ObjectKind;)Z"⟩ : MethodName)) (z := (⟨"com/example/meerkat/meerkat/ObjectKind", "names", "(Lcom/example/meerkat/meerkat/ObjectKind;)Z"⟩ : MethodName)) hown (mvT hZ (hw _ (List.mem_of_getElem? (i := 10) rfl))) (mvT hZ (hw _ (List.mem_of_getElem? (i := 11) rfl))) (notFace_of_selects (args := #[]) (mvT hZ (hw _ (List.mem_of_getElem? (i := 13) rfl)))) (mvT hZ (hw _ (List.mem_of_getElem? (i := 13) rfl))) (mvT hZ (hw _ (List.mem_of_getElem? (i := 12) rfl))) (by decide) (backOf (W := 0) (rm2_n l Z a0 hw [] wS wV wT h0 n0 Z0 S_TABLE n_wV_wS n_wS_wT) hZ (hw _ (List.mem_of_getElem? (i := 14) rfl)) (hw _ (List.mem_of_getElem? (i := 5) rfl)) (by decide) (by decide)) q24a q24c (g := (mkF m 48 #[iv p1, iv p2, iv (1 : Int32), iv (3 : Int32), rv wS, rv wV, iv (35873 : Int32), iv (0 : Int32)] [(.ref wV), (.ref wS)])) rfl (by rw [hml]; rfl) (Steps.refl _) (argsL := [(.ref wV)]) (rest := []) (lenOf pd__Lcom_example_meerkat_meerkat_ObjectKind__Z rfl) rfl (by show 2 * 0 + _ ≤ _; exact Nat.le_of_eq rfl) (hb hby at_48) (fun _ _ => ⟨rfl, e23, (by decide : 0 + 0 ≤ _), (by decide : 0 + 0 ≤ _)⟩)
      dsimp only [Pt.U, Pt.locs, Pt.cells, Pt.slots] at X24 l24 y24 z24 st24 hQ24
      subst l24 y24 z24
      obtain ⟨rfl, N24q, e24⟩ := hQ24
      have N24 := Fr.app N23 N24q
      refine own_go ?_ (fun target hr => st24.trans (XS.iload X24.here hx rfl (hb hby at_51) rfl (XS.icmpNo X24.here hx rfl (hb hby at_53) rfl (teq (by decide : (0 : Int32) = (0 : Int32))).2 (XS.iconst X24.here hx rfl (hb hby at_56) (XS.goto X24.here hx rfl (pc0 := 57) (pc' := 61) rfl (hb hby at_57) (by decide) (by decide) hr)))))
      show own_G _ p e below s _ _ _ (T24.setTop (mkF m 61 #[iv p1, iv p2, iv (1 : Int32), iv (3 : Int32), rv wS, rv wV, iv (35873 : Int32), iv (0 : Int32)] [(.int (1 : Int32))]))
      obtain ⟨fs, hr, hrun, hended, hW, hsame⟩ := X24.leave (v := some (.int (1 : Int32))) (fun h => by rw [Bd.returns] at h; cases h)
      exact ⟨_, _, retN X24 hx (t := .boolean) Bd.returns (by simp) (hb hby at_61) hr, hrun, hended, _, _, rfl, ⟨rfl, N24, trivial⟩, ⟨_, rfl⟩, hW, hsame.mono (by decide) (by decide)⟩
  ·
    rw [hs3_2]
    show own_G _ p e below s _ _ _ (s₁.setTop (mkF m 3 #[iv p1, iv p2, .unset, .unset, .unset, .unset, .unset, .unset] [(.int (2 : Int32))]))
    refine own_go ?_ (fun target hr => XS.istoreN X0.here hx rfl (hb hby at_3) rfl (l' := #[iv p1, iv p2, iv (2 : Int32), .unset, .unset, .unset, .unset, .unset]) rfl (XS.iloadN X0.here hx rfl (hb hby at_4) rfl (XS.iconst X0.here hx rfl (hb hby at_5) (XS.iand X0.here hx rfl (hb hby at_6) rfl hr))))
    show own_G _ p e below s _ _ _ (s₁.setTop (mkF m 7 #[iv p1, iv p2, iv (2 : Int32), .unset, .unset, .unset, .unset, .unset] [(.int (p2 &&& (3 : Int32)))]))
    rcases own_and3 p2 with hs7_0 | hs7_1 | hs7_2 | hs7_3
    ·
      rw [hs7_0]
      show own_G _ p e below s _ _ _ (s₁.setTop (mkF m 7 #[iv p1, iv p2, iv (2 : Int32), .unset, .unset, .unset, .unset, .unset] [(.int (0 : Int32))]))
      refine own_go ?_ (fun target hr => XS.istoreN X0.here hx rfl (hb hby at_7) rfl (l' := #[iv p1, iv p2, iv (2 : Int32), iv (0 : Int32), .unset, .unset, .unset, .unset]) rfl (XS.iloadN X0.here hx rfl (hb hby at_8) rfl hr))
      show own_G _ p e below s _ _ _ (s₁.setTop (mkF m 9 #[iv p1, iv p2, iv (2 : Int32), iv (0 : Int32), .unset, .unset, .unset, .unset] [(.int (2 : Int32))]))
      obtain ⟨_, _, ⟨T25, L25, k25, n25⟩, -, X25, ⟨Lc25, hQ25, l25, y25, z25⟩, st25⟩ := Jvm.LawKit.callS X0 hx (y := (⟨"com/example/meerkat/meerkat/ObjectKindNamesPinLaw", "kind", "(I)Lcom/example/meerkat/meerkat/ObjectKind;"⟩ : MethodName)) hown (mvT hZ (hw _ (List.mem_of_getElem? (i := 0) rfl))) (mvT hZ (hw _ (List.mem_of_getElem? (i := 1) rfl))) (mvT hZ (hw _ (List.mem_of_getElem? (i := 2) rfl))) (mvT hZ (hw _ (List.mem_of_getElem? (i := 3) rfl))) (by decide) (backOf (W := 0) (rm1_2 l Z a0 hw [] wT h0 n0 Z0 S_TABLE) hZ (hw _ (List.mem_of_getElem? (i := 3) rfl)) (hw _ (List.mem_of_getElem? (i := 2) rfl)) (by decide) (by decide)) (g := (mkF m 9 #[iv p1, iv p2, iv (2 : Int32), iv (0 : Int32), .unset, .unset, .unset, .unset] [(.int (2 : Int32))])) rfl (by rw [hml]; rfl) (argsL := [(.int (2 : Int32))]) (rest := []) (lenOf pd__I_Lcom_example_meerkat_meerkat_ObjectKind_ rfl) rfl (by show 2 * 0 + _ ≤ _; exact Nat.le_of_eq rfl) (hb hby at_9) (fun _ _ => ⟨rfl, e0, (by decide : 0 + 0 ≤ _), (by decide : 0 + 0 ≤ _)⟩)
      dsimp only [Pt.U, Pt.locs, Pt.cells, Pt.slots] at X25 l25 y25 z25 st25 hQ25
      subst l25 y25 z25
      obtain ⟨rfl, N25q, e25⟩ := hQ25
      have N25 := Fr.app N0 N25q
      refine own_go ?_ (fun target hr => st25 _ (XS.astore X25.here hx rfl (hb hby at_12) rfl rfl (l' := #[iv p1, iv p2, iv (2 : Int32), iv (0 : Int32), rv wT, .unset, .unset, .unset]) rfl (XS.iloadN X25.here hx rfl (hb hby at_14) rfl hr)))
      show own_G _ p e below s _ _ _ (T25.setTop (mkF m 15 #[iv p1, iv p2, iv (2 : Int32), iv (0 : Int32), rv wT, .unset, .unset, .unset] [(.int (0 : Int32))]))
      obtain ⟨_, _, ⟨T26, L26, k26, n26⟩, -, X26, ⟨Lc26, hQ26, l26, y26, z26⟩, st26⟩ := Jvm.LawKit.callS X25 hx (y := (⟨"com/example/meerkat/meerkat/ObjectKindNamesPinLaw", "kind", "(I)Lcom/example/meerkat/meerkat/ObjectKind;"⟩ : MethodName)) hown (mvT hZ (hw _ (List.mem_of_getElem? (i := 0) rfl))) (mvT hZ (hw _ (List.mem_of_getElem? (i := 1) rfl))) (mvT hZ (hw _ (List.mem_of_getElem? (i := 2) rfl))) (mvT hZ (hw _ (List.mem_of_getElem? (i := 3) rfl))) (by decide) (backOf (W := 0) (rm1_0 l Z a0 hw [] wD h0 n0 Z0 S_DATABASE) hZ (hw _ (List.mem_of_getElem? (i := 3) rfl)) (hw _ (List.mem_of_getElem? (i := 2) rfl)) (by decide) (by decide)) (g := (mkF m 15 #[iv p1, iv p2, iv (2 : Int32), iv (0 : Int32), rv wT, .unset, .unset, .unset] [(.int (0 : Int32))])) rfl (by rw [hml]; rfl) (argsL := [(.int (0 : Int32))]) (rest := []) (lenOf pd__I_Lcom_example_meerkat_meerkat_ObjectKind_ rfl) rfl (by show 2 * 0 + _ ≤ _; exact Nat.le_of_eq rfl) (hb hby at_15) (fun _ _ => ⟨rfl, e25, (by decide : 0 + 0 ≤ _), (by decide : 0 + 0 ≤ _)⟩)
      dsimp only [Pt.U, Pt.locs, Pt.cells, Pt.slots] at X26 l26 y26 z26 st26 hQ26
      subst l26 y26 z26
      obtain ⟨rfl, N26q, e26⟩ := hQ26
      have N26 := Fr.app N25 N26q
      refine own_go ?_ (fun target hr => st26 _ (XS.astore X26.here hx rfl (hb hby at_18) rfl rfl (l' := #[iv p1, iv p2, iv (2 : Int32), iv (0 : Int32), rv wT, rv wD, .unset, .unset]) rfl (X26.ldcI hx hown (mvT hZ (hw _ (List.mem_of_getElem? (i := 9) rfl))) rfl (hb hby at_20) (XS.istore X26.here hx rfl (hb hby at_22) rfl (l' := #[iv p1, iv p2, iv (2 : Int32), iv (0 : Int32), rv wT, rv wD, iv (35873 : Int32), .unset]) rfl (XS.iload X26.here hx rfl (hb hby at_24) rfl (XS.iloadN X26.here hx rfl (hb hby at_26) rfl (XS.iconst X26.here hx rfl (hb hby at_27) (XS.imul X26.here hx rfl (hb hby at_28) rfl hr))))))))
      show own_G _ p e below s _ _ _ (T26.setTop (mkF m 29 #[iv p1, iv p2, iv (2 : Int32), iv (0 : Int32), rv wT, rv wD, iv (35873 : Int32), .unset] [(.int (8 : Int32)), (.int (35873 : Int32))]))
      refine own_go ?_ (fun target hr => XS.iloadN X26.here hx rfl (hb hby at_29) rfl (XS.iadd X26.here hx rfl (hb hby at_30) rfl (XS.iushr X26.here hx rfl (hb hby at_31) rfl (XS.iconst X26.here hx rfl (hb hby at_32) (XS.iand X26.here hx rfl (hb hby at_33) rfl (XS.ifYes X26.here hx rfl (pc0 := 34) (pc' := 41) rfl (hb hby at_34) rfl ((if0 _ _).trans (teq (by decide : (0 : Int32) = (0 : Int32))).1) (by decide) (by decide) (XS.iconst X26.here hx rfl (hb hby at_41) (XS.istore X26.here hx rfl (hb hby at_42) rfl (l' := #[iv p1, iv p2, iv (2 : Int32), iv (0 : Int32), rv wT, rv wD, iv (35873 : Int32), iv (0 : Int32)]) rfl hr))))))))
      show own_G _ p e below s _ _ _ (T26.setTop (mkF m 44 #[iv p1, iv p2, iv (2 : Int32), iv (0 : Int32), rv wT, rv wD, iv (35873 : Int32), iv (0 : Int32)] []))
      refine own_go ?_ (fun target hr => XS.aload X26.here hx rfl (hb hby at_44) rfl rfl (XS.aload X26.here hx rfl (hb hby at_46) rfl rfl hr))
      show own_G _ p e below s _ _ _ (T26.setTop (mkF m 48 #[iv p1, iv p2, iv (2 : Int32), iv (0 : Int32), rv wT, rv wD, iv (35873 : Int32), iv (0 : Int32)] [(.ref wD), (.ref wT)]))
      obtain ⟨cq27, kq27, q27a, q27b, q27c⟩ := isOf hZ e26 E_wT
      obtain ⟨_, _, ⟨T27, L27, k27, n27⟩, -, X27, ⟨Lc27, hQ27, l27, y27, z27⟩, st27⟩ := X26.virtualBack hx (y := (⟨"com/example/meerkat/meerkat/ObjectKind", "names", "(Lcom/example/meerkat/meerkat/ObjectKind;)Z"⟩ : MethodName)) (z := (⟨"com/example/meerkat/meerkat/ObjectKind", "names", "(Lcom/example/meerkat/meerkat/ObjectKind;)Z"⟩ : MethodName)) hown (mvT hZ (hw _ (List.mem_of_getElem? (i := 10) rfl))) (mvT hZ (hw _ (List.mem_of_getElem? (i := 11) rfl))) (notFace_of_selects (args := #[]) (mvT hZ (hw _ (List.mem_of_getElem? (i := 13) rfl)))) (mvT hZ (hw _ (List.mem_of_getElem? (i := 13) rfl))) (mvT hZ (hw _ (List.mem_of_getElem? (i := 12) rfl))) (by decide) (backOf (W := 0) (rm2_tn l Z a0 hw [] wT wD wV h0 n0 Z0 S_TABLE S_VIEW n_wD_wT n_wD_wV) hZ (hw _ (List.mem_of_getElem? (i := 14) rfl)) (hw _ (List.mem_of_getElem? (i := 5) rfl)) (by decide) (by decide)) q27a q27c (g := (mkF m 48 #[iv p1, iv p2, iv (2 : Int32), iv (0 : Int32), rv wT, rv wD, iv (35873 : Int32), iv (0 : Int32)] [(.ref wD), (.ref wT)])) rfl (by rw [hml]; rfl) (Steps.refl _) (argsL := [(.ref wD)]) (rest := []) (lenOf pd__Lcom_example_meerkat_meerkat_ObjectKind__Z rfl) rfl (by show 2 * 0 + _ ≤ _; exact Nat.le_of_eq rfl) (hb hby at_48) (fun _ _ => ⟨rfl, e26, (by decide : 0 + 0 ≤ _), (by decide : 0 + 0 ≤ _)⟩)
      dsimp only [Pt.U, Pt.locs, Pt.cells, Pt.slots] at X27 l27 y27 z27 st27 hQ27
      subst l27 y27 z27
      obtain ⟨rfl, N27q, e27⟩ := hQ27
      have N27 := Fr.app N26 N27q
      refine own_go ?_ (fun target hr => st27.trans (XS.iload X27.here hx rfl (hb hby at_51) rfl (XS.icmpNo X27.here hx rfl (hb hby at_53) rfl (teq (by decide : (0 : Int32) = (0 : Int32))).2 (XS.iconst X27.here hx rfl (hb hby at_56) (XS.goto X27.here hx rfl (pc0 := 57) (pc' := 61) rfl (hb hby at_57) (by decide) (by decide) hr)))))
      show own_G _ p e below s _ _ _ (T27.setTop (mkF m 61 #[iv p1, iv p2, iv (2 : Int32), iv (0 : Int32), rv wT, rv wD, iv (35873 : Int32), iv (0 : Int32)] [(.int (1 : Int32))]))
      obtain ⟨fs, hr, hrun, hended, hW, hsame⟩ := X27.leave (v := some (.int (1 : Int32))) (fun h => by rw [Bd.returns] at h; cases h)
      exact ⟨_, _, retN X27 hx (t := .boolean) Bd.returns (by simp) (hb hby at_61) hr, hrun, hended, _, _, rfl, ⟨rfl, N27, trivial⟩, ⟨_, rfl⟩, hW, hsame.mono (by decide) (by decide)⟩
    ·
      rw [hs7_1]
      show own_G _ p e below s _ _ _ (s₁.setTop (mkF m 7 #[iv p1, iv p2, iv (2 : Int32), .unset, .unset, .unset, .unset, .unset] [(.int (1 : Int32))]))
      refine own_go ?_ (fun target hr => XS.istoreN X0.here hx rfl (hb hby at_7) rfl (l' := #[iv p1, iv p2, iv (2 : Int32), iv (1 : Int32), .unset, .unset, .unset, .unset]) rfl (XS.iloadN X0.here hx rfl (hb hby at_8) rfl hr))
      show own_G _ p e below s _ _ _ (s₁.setTop (mkF m 9 #[iv p1, iv p2, iv (2 : Int32), iv (1 : Int32), .unset, .unset, .unset, .unset] [(.int (2 : Int32))]))
      obtain ⟨_, _, ⟨T28, L28, k28, n28⟩, -, X28, ⟨Lc28, hQ28, l28, y28, z28⟩, st28⟩ := Jvm.LawKit.callS X0 hx (y := (⟨"com/example/meerkat/meerkat/ObjectKindNamesPinLaw", "kind", "(I)Lcom/example/meerkat/meerkat/ObjectKind;"⟩ : MethodName)) hown (mvT hZ (hw _ (List.mem_of_getElem? (i := 0) rfl))) (mvT hZ (hw _ (List.mem_of_getElem? (i := 1) rfl))) (mvT hZ (hw _ (List.mem_of_getElem? (i := 2) rfl))) (mvT hZ (hw _ (List.mem_of_getElem? (i := 3) rfl))) (by decide) (backOf (W := 0) (rm1_2 l Z a0 hw [] wT h0 n0 Z0 S_TABLE) hZ (hw _ (List.mem_of_getElem? (i := 3) rfl)) (hw _ (List.mem_of_getElem? (i := 2) rfl)) (by decide) (by decide)) (g := (mkF m 9 #[iv p1, iv p2, iv (2 : Int32), iv (1 : Int32), .unset, .unset, .unset, .unset] [(.int (2 : Int32))])) rfl (by rw [hml]; rfl) (argsL := [(.int (2 : Int32))]) (rest := []) (lenOf pd__I_Lcom_example_meerkat_meerkat_ObjectKind_ rfl) rfl (by show 2 * 0 + _ ≤ _; exact Nat.le_of_eq rfl) (hb hby at_9) (fun _ _ => ⟨rfl, e0, (by decide : 0 + 0 ≤ _), (by decide : 0 + 0 ≤ _)⟩)
      dsimp only [Pt.U, Pt.locs, Pt.cells, Pt.slots] at X28 l28 y28 z28 st28 hQ28
      subst l28 y28 z28
      obtain ⟨rfl, N28q, e28⟩ := hQ28
      have N28 := Fr.app N0 N28q
      refine own_go ?_ (fun target hr => st28 _ (XS.astore X28.here hx rfl (hb hby at_12) rfl rfl (l' := #[iv p1, iv p2, iv (2 : Int32), iv (1 : Int32), rv wT, .unset, .unset, .unset]) rfl (XS.iloadN X28.here hx rfl (hb hby at_14) rfl hr)))
      show own_G _ p e below s _ _ _ (T28.setTop (mkF m 15 #[iv p1, iv p2, iv (2 : Int32), iv (1 : Int32), rv wT, .unset, .unset, .unset] [(.int (1 : Int32))]))
      obtain ⟨_, _, ⟨T29, L29, k29, n29⟩, -, X29, ⟨Lc29, hQ29, l29, y29, z29⟩, st29⟩ := Jvm.LawKit.callS X28 hx (y := (⟨"com/example/meerkat/meerkat/ObjectKindNamesPinLaw", "kind", "(I)Lcom/example/meerkat/meerkat/ObjectKind;"⟩ : MethodName)) hown (mvT hZ (hw _ (List.mem_of_getElem? (i := 0) rfl))) (mvT hZ (hw _ (List.mem_of_getElem? (i := 1) rfl))) (mvT hZ (hw _ (List.mem_of_getElem? (i := 2) rfl))) (mvT hZ (hw _ (List.mem_of_getElem? (i := 3) rfl))) (by decide) (backOf (W := 0) (rm1_1 l Z a0 hw [] wS h0 n0 Z0 S_SCHEMA) hZ (hw _ (List.mem_of_getElem? (i := 3) rfl)) (hw _ (List.mem_of_getElem? (i := 2) rfl)) (by decide) (by decide)) (g := (mkF m 15 #[iv p1, iv p2, iv (2 : Int32), iv (1 : Int32), rv wT, .unset, .unset, .unset] [(.int (1 : Int32))])) rfl (by rw [hml]; rfl) (argsL := [(.int (1 : Int32))]) (rest := []) (lenOf pd__I_Lcom_example_meerkat_meerkat_ObjectKind_ rfl) rfl (by show 2 * 0 + _ ≤ _; exact Nat.le_of_eq rfl) (hb hby at_15) (fun _ _ => ⟨rfl, e28, (by decide : 0 + 0 ≤ _), (by decide : 0 + 0 ≤ _)⟩)
      dsimp only [Pt.U, Pt.locs, Pt.cells, Pt.slots] at X29 l29 y29 z29 st29 hQ29
      subst l29 y29 z29
      obtain ⟨rfl, N29q, e29⟩ := hQ29
      have N29 := Fr.app N28 N29q
      refine own_go ?_ (fun target hr => st29 _ (XS.astore X29.here hx rfl (hb hby at_18) rfl rfl (l' := #[iv p1, iv p2, iv (2 : Int32), iv (1 : Int32), rv wT, rv wS, .unset, .unset]) rfl (X29.ldcI hx hown (mvT hZ (hw _ (List.mem_of_getElem? (i := 9) rfl))) rfl (hb hby at_20) (XS.istore X29.here hx rfl (hb hby at_22) rfl (l' := #[iv p1, iv p2, iv (2 : Int32), iv (1 : Int32), rv wT, rv wS, iv (35873 : Int32), .unset]) rfl (XS.iload X29.here hx rfl (hb hby at_24) rfl (XS.iloadN X29.here hx rfl (hb hby at_26) rfl (XS.iconst X29.here hx rfl (hb hby at_27) (XS.imul X29.here hx rfl (hb hby at_28) rfl hr))))))))
      show own_G _ p e below s _ _ _ (T29.setTop (mkF m 29 #[iv p1, iv p2, iv (2 : Int32), iv (1 : Int32), rv wT, rv wS, iv (35873 : Int32), .unset] [(.int (8 : Int32)), (.int (35873 : Int32))]))
      refine own_go ?_ (fun target hr => XS.iloadN X29.here hx rfl (hb hby at_29) rfl (XS.iadd X29.here hx rfl (hb hby at_30) rfl (XS.iushr X29.here hx rfl (hb hby at_31) rfl (XS.iconst X29.here hx rfl (hb hby at_32) (XS.iand X29.here hx rfl (hb hby at_33) rfl (XS.ifYes X29.here hx rfl (pc0 := 34) (pc' := 41) rfl (hb hby at_34) rfl ((if0 _ _).trans (teq (by decide : (0 : Int32) = (0 : Int32))).1) (by decide) (by decide) (XS.iconst X29.here hx rfl (hb hby at_41) (XS.istore X29.here hx rfl (hb hby at_42) rfl (l' := #[iv p1, iv p2, iv (2 : Int32), iv (1 : Int32), rv wT, rv wS, iv (35873 : Int32), iv (0 : Int32)]) rfl hr))))))))
      show own_G _ p e below s _ _ _ (T29.setTop (mkF m 44 #[iv p1, iv p2, iv (2 : Int32), iv (1 : Int32), rv wT, rv wS, iv (35873 : Int32), iv (0 : Int32)] []))
      refine own_go ?_ (fun target hr => XS.aload X29.here hx rfl (hb hby at_44) rfl rfl (XS.aload X29.here hx rfl (hb hby at_46) rfl rfl hr))
      show own_G _ p e below s _ _ _ (T29.setTop (mkF m 48 #[iv p1, iv p2, iv (2 : Int32), iv (1 : Int32), rv wT, rv wS, iv (35873 : Int32), iv (0 : Int32)] [(.ref wS), (.ref wT)]))
      obtain ⟨cq30, kq30, q30a, q30b, q30c⟩ := isOf hZ e29 E_wT
      obtain ⟨_, _, ⟨T30, L30, k30, n30⟩, -, X30, ⟨Lc30, hQ30, l30, y30, z30⟩, st30⟩ := X29.virtualBack hx (y := (⟨"com/example/meerkat/meerkat/ObjectKind", "names", "(Lcom/example/meerkat/meerkat/ObjectKind;)Z"⟩ : MethodName)) (z := (⟨"com/example/meerkat/meerkat/ObjectKind", "names", "(Lcom/example/meerkat/meerkat/ObjectKind;)Z"⟩ : MethodName)) hown (mvT hZ (hw _ (List.mem_of_getElem? (i := 10) rfl))) (mvT hZ (hw _ (List.mem_of_getElem? (i := 11) rfl))) (notFace_of_selects (args := #[]) (mvT hZ (hw _ (List.mem_of_getElem? (i := 13) rfl)))) (mvT hZ (hw _ (List.mem_of_getElem? (i := 13) rfl))) (mvT hZ (hw _ (List.mem_of_getElem? (i := 12) rfl))) (by decide) (backOf (W := 0) (rm2_tn l Z a0 hw [] wT wS wV h0 n0 Z0 S_TABLE S_VIEW n_wS_wT n_wS_wV) hZ (hw _ (List.mem_of_getElem? (i := 14) rfl)) (hw _ (List.mem_of_getElem? (i := 5) rfl)) (by decide) (by decide)) q30a q30c (g := (mkF m 48 #[iv p1, iv p2, iv (2 : Int32), iv (1 : Int32), rv wT, rv wS, iv (35873 : Int32), iv (0 : Int32)] [(.ref wS), (.ref wT)])) rfl (by rw [hml]; rfl) (Steps.refl _) (argsL := [(.ref wS)]) (rest := []) (lenOf pd__Lcom_example_meerkat_meerkat_ObjectKind__Z rfl) rfl (by show 2 * 0 + _ ≤ _; exact Nat.le_of_eq rfl) (hb hby at_48) (fun _ _ => ⟨rfl, e29, (by decide : 0 + 0 ≤ _), (by decide : 0 + 0 ≤ _)⟩)
      dsimp only [Pt.U, Pt.locs, Pt.cells, Pt.slots] at X30 l30 y30 z30 st30 hQ30
      subst l30 y30 z30
      obtain ⟨rfl, N30q, e30⟩ := hQ30
      have N30 := Fr.app N29 N30q
      refine own_go ?_ (fun target hr => st30.trans (XS.iload X30.here hx rfl (hb hby at_51) rfl (XS.icmpNo X30.here hx rfl (hb hby at_53) rfl (teq (by decide : (0 : Int32) = (0 : Int32))).2 (XS.iconst X30.here hx rfl (hb hby at_56) (XS.goto X30.here hx rfl (pc0 := 57) (pc' := 61) rfl (hb hby at_57) (by decide) (by decide) hr)))))
      show own_G _ p e below s _ _ _ (T30.setTop (mkF m 61 #[iv p1, iv p2, iv (2 : Int32), iv (1 : Int32), rv wT, rv wS, iv (35873 : Int32), iv (0 : Int32)] [(.int (1 : Int32))]))
      obtain ⟨fs, hr, hrun, hended, hW, hsame⟩ := X30.leave (v := some (.int (1 : Int32))) (fun h => by rw [Bd.returns] at h; cases h)
      exact ⟨_, _, retN X30 hx (t := .boolean) Bd.returns (by simp) (hb hby at_61) hr, hrun, hended, _, _, rfl, ⟨rfl, N30, trivial⟩, ⟨_, rfl⟩, hW, hsame.mono (by decide) (by decide)⟩
    ·
      rw [hs7_2]
      show own_G _ p e below s _ _ _ (s₁.setTop (mkF m 7 #[iv p1, iv p2, iv (2 : Int32), .unset, .unset, .unset, .unset, .unset] [(.int (2 : Int32))]))
      refine own_go ?_ (fun target hr => XS.istoreN X0.here hx rfl (hb hby at_7) rfl (l' := #[iv p1, iv p2, iv (2 : Int32), iv (2 : Int32), .unset, .unset, .unset, .unset]) rfl (XS.iloadN X0.here hx rfl (hb hby at_8) rfl hr))
      show own_G _ p e below s _ _ _ (s₁.setTop (mkF m 9 #[iv p1, iv p2, iv (2 : Int32), iv (2 : Int32), .unset, .unset, .unset, .unset] [(.int (2 : Int32))]))
      obtain ⟨_, _, ⟨T31, L31, k31, n31⟩, -, X31, ⟨Lc31, hQ31, l31, y31, z31⟩, st31⟩ := Jvm.LawKit.callS X0 hx (y := (⟨"com/example/meerkat/meerkat/ObjectKindNamesPinLaw", "kind", "(I)Lcom/example/meerkat/meerkat/ObjectKind;"⟩ : MethodName)) hown (mvT hZ (hw _ (List.mem_of_getElem? (i := 0) rfl))) (mvT hZ (hw _ (List.mem_of_getElem? (i := 1) rfl))) (mvT hZ (hw _ (List.mem_of_getElem? (i := 2) rfl))) (mvT hZ (hw _ (List.mem_of_getElem? (i := 3) rfl))) (by decide) (backOf (W := 0) (rm1_2 l Z a0 hw [] wT h0 n0 Z0 S_TABLE) hZ (hw _ (List.mem_of_getElem? (i := 3) rfl)) (hw _ (List.mem_of_getElem? (i := 2) rfl)) (by decide) (by decide)) (g := (mkF m 9 #[iv p1, iv p2, iv (2 : Int32), iv (2 : Int32), .unset, .unset, .unset, .unset] [(.int (2 : Int32))])) rfl (by rw [hml]; rfl) (argsL := [(.int (2 : Int32))]) (rest := []) (lenOf pd__I_Lcom_example_meerkat_meerkat_ObjectKind_ rfl) rfl (by show 2 * 0 + _ ≤ _; exact Nat.le_of_eq rfl) (hb hby at_9) (fun _ _ => ⟨rfl, e0, (by decide : 0 + 0 ≤ _), (by decide : 0 + 0 ≤ _)⟩)
      dsimp only [Pt.U, Pt.locs, Pt.cells, Pt.slots] at X31 l31 y31 z31 st31 hQ31
      subst l31 y31 z31
      obtain ⟨rfl, N31q, e31⟩ := hQ31
      have N31 := Fr.app N0 N31q
      refine own_go ?_ (fun target hr => st31 _ (XS.astore X31.here hx rfl (hb hby at_12) rfl rfl (l' := #[iv p1, iv p2, iv (2 : Int32), iv (2 : Int32), rv wT, .unset, .unset, .unset]) rfl (XS.iloadN X31.here hx rfl (hb hby at_14) rfl hr)))
      show own_G _ p e below s _ _ _ (T31.setTop (mkF m 15 #[iv p1, iv p2, iv (2 : Int32), iv (2 : Int32), rv wT, .unset, .unset, .unset] [(.int (2 : Int32))]))
      obtain ⟨_, _, ⟨T32, L32, k32, n32⟩, -, X32, ⟨Lc32, hQ32, l32, y32, z32⟩, st32⟩ := Jvm.LawKit.callS X31 hx (y := (⟨"com/example/meerkat/meerkat/ObjectKindNamesPinLaw", "kind", "(I)Lcom/example/meerkat/meerkat/ObjectKind;"⟩ : MethodName)) hown (mvT hZ (hw _ (List.mem_of_getElem? (i := 0) rfl))) (mvT hZ (hw _ (List.mem_of_getElem? (i := 1) rfl))) (mvT hZ (hw _ (List.mem_of_getElem? (i := 2) rfl))) (mvT hZ (hw _ (List.mem_of_getElem? (i := 3) rfl))) (by decide) (backOf (W := 0) (rm1_2 l Z a0 hw [] wT h0 n0 Z0 S_TABLE) hZ (hw _ (List.mem_of_getElem? (i := 3) rfl)) (hw _ (List.mem_of_getElem? (i := 2) rfl)) (by decide) (by decide)) (g := (mkF m 15 #[iv p1, iv p2, iv (2 : Int32), iv (2 : Int32), rv wT, .unset, .unset, .unset] [(.int (2 : Int32))])) rfl (by rw [hml]; rfl) (argsL := [(.int (2 : Int32))]) (rest := []) (lenOf pd__I_Lcom_example_meerkat_meerkat_ObjectKind_ rfl) rfl (by show 2 * 0 + _ ≤ _; exact Nat.le_of_eq rfl) (hb hby at_15) (fun _ _ => ⟨rfl, e31, (by decide : 0 + 0 ≤ _), (by decide : 0 + 0 ≤ _)⟩)
      dsimp only [Pt.U, Pt.locs, Pt.cells, Pt.slots] at X32 l32 y32 z32 st32 hQ32
      subst l32 y32 z32
      obtain ⟨rfl, N32q, e32⟩ := hQ32
      have N32 := Fr.app N31 N32q
      refine own_go ?_ (fun target hr => st32 _ (XS.astore X32.here hx rfl (hb hby at_18) rfl rfl (l' := #[iv p1, iv p2, iv (2 : Int32), iv (2 : Int32), rv wT, rv wT, .unset, .unset]) rfl (X32.ldcI hx hown (mvT hZ (hw _ (List.mem_of_getElem? (i := 9) rfl))) rfl (hb hby at_20) (XS.istore X32.here hx rfl (hb hby at_22) rfl (l' := #[iv p1, iv p2, iv (2 : Int32), iv (2 : Int32), rv wT, rv wT, iv (35873 : Int32), .unset]) rfl (XS.iload X32.here hx rfl (hb hby at_24) rfl (XS.iloadN X32.here hx rfl (hb hby at_26) rfl (XS.iconst X32.here hx rfl (hb hby at_27) (XS.imul X32.here hx rfl (hb hby at_28) rfl hr))))))))
      show own_G _ p e below s _ _ _ (T32.setTop (mkF m 29 #[iv p1, iv p2, iv (2 : Int32), iv (2 : Int32), rv wT, rv wT, iv (35873 : Int32), .unset] [(.int (8 : Int32)), (.int (35873 : Int32))]))
      refine own_go ?_ (fun target hr => XS.iloadN X32.here hx rfl (hb hby at_29) rfl (XS.iadd X32.here hx rfl (hb hby at_30) rfl (XS.iushr X32.here hx rfl (hb hby at_31) rfl (XS.iconst X32.here hx rfl (hb hby at_32) (XS.iand X32.here hx rfl (hb hby at_33) rfl (XS.ifNo X32.here hx rfl (hb hby at_34) rfl ((if0 _ _).trans (feq (by decide : ¬ ((1 : Int32) = (0 : Int32)))).1) (XS.iconst X32.here hx rfl (hb hby at_37) (XS.goto X32.here hx rfl (pc0 := 38) (pc' := 42) rfl (hb hby at_38) (by decide) (by decide) hr))))))))
      show own_G _ p e below s _ _ _ (T32.setTop (mkF m 42 #[iv p1, iv p2, iv (2 : Int32), iv (2 : Int32), rv wT, rv wT, iv (35873 : Int32), .unset] [(.int (1 : Int32))]))
      refine own_go ?_ (fun target hr => XS.istore X32.here hx rfl (hb hby at_42) rfl (l' := #[iv p1, iv p2, iv (2 : Int32), iv (2 : Int32), rv wT, rv wT, iv (35873 : Int32), iv (1 : Int32)]) rfl (XS.aload X32.here hx rfl (hb hby at_44) rfl rfl (XS.aload X32.here hx rfl (hb hby at_46) rfl rfl hr)))
      show own_G _ p e below s _ _ _ (T32.setTop (mkF m 48 #[iv p1, iv p2, iv (2 : Int32), iv (2 : Int32), rv wT, rv wT, iv (35873 : Int32), iv (1 : Int32)] [(.ref wT), (.ref wT)]))
      obtain ⟨cq33, kq33, q33a, q33b, q33c⟩ := isOf hZ e32 E_wT
      obtain ⟨_, _, ⟨T33, L33, k33, n33⟩, -, X33, ⟨Lc33, hQ33, l33, y33, z33⟩, st33⟩ := X32.virtualBack hx (y := (⟨"com/example/meerkat/meerkat/ObjectKind", "names", "(Lcom/example/meerkat/meerkat/ObjectKind;)Z"⟩ : MethodName)) (z := (⟨"com/example/meerkat/meerkat/ObjectKind", "names", "(Lcom/example/meerkat/meerkat/ObjectKind;)Z"⟩ : MethodName)) hown (mvT hZ (hw _ (List.mem_of_getElem? (i := 10) rfl))) (mvT hZ (hw _ (List.mem_of_getElem? (i := 11) rfl))) (notFace_of_selects (args := #[]) (mvT hZ (hw _ (List.mem_of_getElem? (i := 13) rfl)))) (mvT hZ (hw _ (List.mem_of_getElem? (i := 13) rfl))) (mvT hZ (hw _ (List.mem_of_getElem? (i := 12) rfl))) (by decide) (backOf (W := 0) (rm2_s l Z a0 hw [] wT h0 n0 Z0 ) hZ (hw _ (List.mem_of_getElem? (i := 14) rfl)) (hw _ (List.mem_of_getElem? (i := 5) rfl)) (by decide) (by decide)) q33a q33c (g := (mkF m 48 #[iv p1, iv p2, iv (2 : Int32), iv (2 : Int32), rv wT, rv wT, iv (35873 : Int32), iv (1 : Int32)] [(.ref wT), (.ref wT)])) rfl (by rw [hml]; rfl) (Steps.refl _) (argsL := [(.ref wT)]) (rest := []) (lenOf pd__Lcom_example_meerkat_meerkat_ObjectKind__Z rfl) rfl (by show 2 * 0 + _ ≤ _; exact Nat.le_of_eq rfl) (hb hby at_48) (fun _ _ => ⟨rfl, e32, (by decide : 0 + 0 ≤ _), (by decide : 0 + 0 ≤ _)⟩)
      dsimp only [Pt.U, Pt.locs, Pt.cells, Pt.slots] at X33 l33 y33 z33 st33 hQ33
      subst l33 y33 z33
      obtain ⟨rfl, N33q, e33⟩ := hQ33
      have N33 := Fr.app N32 N33q
      refine own_go ?_ (fun target hr => st33.trans (XS.iload X33.here hx rfl (hb hby at_51) rfl (XS.icmpNo X33.here hx rfl (hb hby at_53) rfl (teq (by decide : (1 : Int32) = (1 : Int32))).2 (XS.iconst X33.here hx rfl (hb hby at_56) (XS.goto X33.here hx rfl (pc0 := 57) (pc' := 61) rfl (hb hby at_57) (by decide) (by decide) hr)))))
      show own_G _ p e below s _ _ _ (T33.setTop (mkF m 61 #[iv p1, iv p2, iv (2 : Int32), iv (2 : Int32), rv wT, rv wT, iv (35873 : Int32), iv (1 : Int32)] [(.int (1 : Int32))]))
      obtain ⟨fs, hr, hrun, hended, hW, hsame⟩ := X33.leave (v := some (.int (1 : Int32))) (fun h => by rw [Bd.returns] at h; cases h)
      exact ⟨_, _, retN X33 hx (t := .boolean) Bd.returns (by simp) (hb hby at_61) hr, hrun, hended, _, _, rfl, ⟨rfl, N33, trivial⟩, ⟨_, rfl⟩, hW, hsame.mono (by decide) (by decide)⟩
    ·
      rw [hs7_3]
      show own_G _ p e below s _ _ _ (s₁.setTop (mkF m 7 #[iv p1, iv p2, iv (2 : Int32), .unset, .unset, .unset, .unset, .unset] [(.int (3 : Int32))]))
      refine own_go ?_ (fun target hr => XS.istoreN X0.here hx rfl (hb hby at_7) rfl (l' := #[iv p1, iv p2, iv (2 : Int32), iv (3 : Int32), .unset, .unset, .unset, .unset]) rfl (XS.iloadN X0.here hx rfl (hb hby at_8) rfl hr))
      show own_G _ p e below s _ _ _ (s₁.setTop (mkF m 9 #[iv p1, iv p2, iv (2 : Int32), iv (3 : Int32), .unset, .unset, .unset, .unset] [(.int (2 : Int32))]))
      obtain ⟨_, _, ⟨T34, L34, k34, n34⟩, -, X34, ⟨Lc34, hQ34, l34, y34, z34⟩, st34⟩ := Jvm.LawKit.callS X0 hx (y := (⟨"com/example/meerkat/meerkat/ObjectKindNamesPinLaw", "kind", "(I)Lcom/example/meerkat/meerkat/ObjectKind;"⟩ : MethodName)) hown (mvT hZ (hw _ (List.mem_of_getElem? (i := 0) rfl))) (mvT hZ (hw _ (List.mem_of_getElem? (i := 1) rfl))) (mvT hZ (hw _ (List.mem_of_getElem? (i := 2) rfl))) (mvT hZ (hw _ (List.mem_of_getElem? (i := 3) rfl))) (by decide) (backOf (W := 0) (rm1_2 l Z a0 hw [] wT h0 n0 Z0 S_TABLE) hZ (hw _ (List.mem_of_getElem? (i := 3) rfl)) (hw _ (List.mem_of_getElem? (i := 2) rfl)) (by decide) (by decide)) (g := (mkF m 9 #[iv p1, iv p2, iv (2 : Int32), iv (3 : Int32), .unset, .unset, .unset, .unset] [(.int (2 : Int32))])) rfl (by rw [hml]; rfl) (argsL := [(.int (2 : Int32))]) (rest := []) (lenOf pd__I_Lcom_example_meerkat_meerkat_ObjectKind_ rfl) rfl (by show 2 * 0 + _ ≤ _; exact Nat.le_of_eq rfl) (hb hby at_9) (fun _ _ => ⟨rfl, e0, (by decide : 0 + 0 ≤ _), (by decide : 0 + 0 ≤ _)⟩)
      dsimp only [Pt.U, Pt.locs, Pt.cells, Pt.slots] at X34 l34 y34 z34 st34 hQ34
      subst l34 y34 z34
      obtain ⟨rfl, N34q, e34⟩ := hQ34
      have N34 := Fr.app N0 N34q
      refine own_go ?_ (fun target hr => st34 _ (XS.astore X34.here hx rfl (hb hby at_12) rfl rfl (l' := #[iv p1, iv p2, iv (2 : Int32), iv (3 : Int32), rv wT, .unset, .unset, .unset]) rfl (XS.iloadN X34.here hx rfl (hb hby at_14) rfl hr)))
      show own_G _ p e below s _ _ _ (T34.setTop (mkF m 15 #[iv p1, iv p2, iv (2 : Int32), iv (3 : Int32), rv wT, .unset, .unset, .unset] [(.int (3 : Int32))]))
      obtain ⟨_, _, ⟨T35, L35, k35, n35⟩, -, X35, ⟨Lc35, hQ35, l35, y35, z35⟩, st35⟩ := Jvm.LawKit.callS X34 hx (y := (⟨"com/example/meerkat/meerkat/ObjectKindNamesPinLaw", "kind", "(I)Lcom/example/meerkat/meerkat/ObjectKind;"⟩ : MethodName)) hown (mvT hZ (hw _ (List.mem_of_getElem? (i := 0) rfl))) (mvT hZ (hw _ (List.mem_of_getElem? (i := 1) rfl))) (mvT hZ (hw _ (List.mem_of_getElem? (i := 2) rfl))) (mvT hZ (hw _ (List.mem_of_getElem? (i := 3) rfl))) (by decide) (backOf (W := 0) (rm1_3 l Z a0 hw [] wV h0 n0 Z0 S_VIEW) hZ (hw _ (List.mem_of_getElem? (i := 3) rfl)) (hw _ (List.mem_of_getElem? (i := 2) rfl)) (by decide) (by decide)) (g := (mkF m 15 #[iv p1, iv p2, iv (2 : Int32), iv (3 : Int32), rv wT, .unset, .unset, .unset] [(.int (3 : Int32))])) rfl (by rw [hml]; rfl) (argsL := [(.int (3 : Int32))]) (rest := []) (lenOf pd__I_Lcom_example_meerkat_meerkat_ObjectKind_ rfl) rfl (by show 2 * 0 + _ ≤ _; exact Nat.le_of_eq rfl) (hb hby at_15) (fun _ _ => ⟨rfl, e34, (by decide : 0 + 0 ≤ _), (by decide : 0 + 0 ≤ _)⟩)
      dsimp only [Pt.U, Pt.locs, Pt.cells, Pt.slots] at X35 l35 y35 z35 st35 hQ35
      subst l35 y35 z35
      obtain ⟨rfl, N35q, e35⟩ := hQ35
      have N35 := Fr.app N34 N35q
      refine own_go ?_ (fun target hr => st35 _ (XS.astore X35.here hx rfl (hb hby at_18) rfl rfl (l' := #[iv p1, iv p2, iv (2 : Int32), iv (3 : Int32), rv wT, rv wV, .unset, .unset]) rfl (X35.ldcI hx hown (mvT hZ (hw _ (List.mem_of_getElem? (i := 9) rfl))) rfl (hb hby at_20) (XS.istore X35.here hx rfl (hb hby at_22) rfl (l' := #[iv p1, iv p2, iv (2 : Int32), iv (3 : Int32), rv wT, rv wV, iv (35873 : Int32), .unset]) rfl (XS.iload X35.here hx rfl (hb hby at_24) rfl (XS.iloadN X35.here hx rfl (hb hby at_26) rfl (XS.iconst X35.here hx rfl (hb hby at_27) (XS.imul X35.here hx rfl (hb hby at_28) rfl hr))))))))
      show own_G _ p e below s _ _ _ (T35.setTop (mkF m 29 #[iv p1, iv p2, iv (2 : Int32), iv (3 : Int32), rv wT, rv wV, iv (35873 : Int32), .unset] [(.int (8 : Int32)), (.int (35873 : Int32))]))
      refine own_go ?_ (fun target hr => XS.iloadN X35.here hx rfl (hb hby at_29) rfl (XS.iadd X35.here hx rfl (hb hby at_30) rfl (XS.iushr X35.here hx rfl (hb hby at_31) rfl (XS.iconst X35.here hx rfl (hb hby at_32) (XS.iand X35.here hx rfl (hb hby at_33) rfl (XS.ifNo X35.here hx rfl (hb hby at_34) rfl ((if0 _ _).trans (feq (by decide : ¬ ((1 : Int32) = (0 : Int32)))).1) (XS.iconst X35.here hx rfl (hb hby at_37) (XS.goto X35.here hx rfl (pc0 := 38) (pc' := 42) rfl (hb hby at_38) (by decide) (by decide) hr))))))))
      show own_G _ p e below s _ _ _ (T35.setTop (mkF m 42 #[iv p1, iv p2, iv (2 : Int32), iv (3 : Int32), rv wT, rv wV, iv (35873 : Int32), .unset] [(.int (1 : Int32))]))
      refine own_go ?_ (fun target hr => XS.istore X35.here hx rfl (hb hby at_42) rfl (l' := #[iv p1, iv p2, iv (2 : Int32), iv (3 : Int32), rv wT, rv wV, iv (35873 : Int32), iv (1 : Int32)]) rfl (XS.aload X35.here hx rfl (hb hby at_44) rfl rfl (XS.aload X35.here hx rfl (hb hby at_46) rfl rfl hr)))
      show own_G _ p e below s _ _ _ (T35.setTop (mkF m 48 #[iv p1, iv p2, iv (2 : Int32), iv (3 : Int32), rv wT, rv wV, iv (35873 : Int32), iv (1 : Int32)] [(.ref wV), (.ref wT)]))
      obtain ⟨cq36, kq36, q36a, q36b, q36c⟩ := isOf hZ e35 E_wT
      obtain ⟨_, _, ⟨T36, L36, k36, n36⟩, -, X36, ⟨Lc36, hQ36, l36, y36, z36⟩, st36⟩ := X35.virtualBack hx (y := (⟨"com/example/meerkat/meerkat/ObjectKind", "names", "(Lcom/example/meerkat/meerkat/ObjectKind;)Z"⟩ : MethodName)) (z := (⟨"com/example/meerkat/meerkat/ObjectKind", "names", "(Lcom/example/meerkat/meerkat/ObjectKind;)Z"⟩ : MethodName)) hown (mvT hZ (hw _ (List.mem_of_getElem? (i := 10) rfl))) (mvT hZ (hw _ (List.mem_of_getElem? (i := 11) rfl))) (notFace_of_selects (args := #[]) (mvT hZ (hw _ (List.mem_of_getElem? (i := 13) rfl)))) (mvT hZ (hw _ (List.mem_of_getElem? (i := 13) rfl))) (mvT hZ (hw _ (List.mem_of_getElem? (i := 12) rfl))) (by decide) (backOf (W := 0) (rm2_tv l Z a0 hw [] wT wV h0 n0 Z0 S_TABLE S_VIEW n_wV_wT) hZ (hw _ (List.mem_of_getElem? (i := 14) rfl)) (hw _ (List.mem_of_getElem? (i := 5) rfl)) (by decide) (by decide)) q36a q36c (g := (mkF m 48 #[iv p1, iv p2, iv (2 : Int32), iv (3 : Int32), rv wT, rv wV, iv (35873 : Int32), iv (1 : Int32)] [(.ref wV), (.ref wT)])) rfl (by rw [hml]; rfl) (Steps.refl _) (argsL := [(.ref wV)]) (rest := []) (lenOf pd__Lcom_example_meerkat_meerkat_ObjectKind__Z rfl) rfl (by show 2 * 0 + _ ≤ _; exact Nat.le_of_eq rfl) (hb hby at_48) (fun _ _ => ⟨rfl, e35, (by decide : 0 + 0 ≤ _), (by decide : 0 + 0 ≤ _)⟩)
      dsimp only [Pt.U, Pt.locs, Pt.cells, Pt.slots] at X36 l36 y36 z36 st36 hQ36
      subst l36 y36 z36
      obtain ⟨rfl, N36q, e36⟩ := hQ36
      have N36 := Fr.app N35 N36q
      refine own_go ?_ (fun target hr => st36.trans (XS.iload X36.here hx rfl (hb hby at_51) rfl (XS.icmpNo X36.here hx rfl (hb hby at_53) rfl (teq (by decide : (1 : Int32) = (1 : Int32))).2 (XS.iconst X36.here hx rfl (hb hby at_56) (XS.goto X36.here hx rfl (pc0 := 57) (pc' := 61) rfl (hb hby at_57) (by decide) (by decide) hr)))))
      show own_G _ p e below s _ _ _ (T36.setTop (mkF m 61 #[iv p1, iv p2, iv (2 : Int32), iv (3 : Int32), rv wT, rv wV, iv (35873 : Int32), iv (1 : Int32)] [(.int (1 : Int32))]))
      obtain ⟨fs, hr, hrun, hended, hW, hsame⟩ := X36.leave (v := some (.int (1 : Int32))) (fun h => by rw [Bd.returns] at h; cases h)
      exact ⟨_, _, retN X36 hx (t := .boolean) Bd.returns (by simp) (hb hby at_61) hr, hrun, hended, _, _, rfl, ⟨rfl, N36, trivial⟩, ⟨_, rfl⟩, hW, hsame.mono (by decide) (by decide)⟩
  ·
    rw [hs3_3]
    show own_G _ p e below s _ _ _ (s₁.setTop (mkF m 3 #[iv p1, iv p2, .unset, .unset, .unset, .unset, .unset, .unset] [(.int (3 : Int32))]))
    refine own_go ?_ (fun target hr => XS.istoreN X0.here hx rfl (hb hby at_3) rfl (l' := #[iv p1, iv p2, iv (3 : Int32), .unset, .unset, .unset, .unset, .unset]) rfl (XS.iloadN X0.here hx rfl (hb hby at_4) rfl (XS.iconst X0.here hx rfl (hb hby at_5) (XS.iand X0.here hx rfl (hb hby at_6) rfl hr))))
    show own_G _ p e below s _ _ _ (s₁.setTop (mkF m 7 #[iv p1, iv p2, iv (3 : Int32), .unset, .unset, .unset, .unset, .unset] [(.int (p2 &&& (3 : Int32)))]))
    rcases own_and3 p2 with hs7_0 | hs7_1 | hs7_2 | hs7_3
    ·
      rw [hs7_0]
      show own_G _ p e below s _ _ _ (s₁.setTop (mkF m 7 #[iv p1, iv p2, iv (3 : Int32), .unset, .unset, .unset, .unset, .unset] [(.int (0 : Int32))]))
      refine own_go ?_ (fun target hr => XS.istoreN X0.here hx rfl (hb hby at_7) rfl (l' := #[iv p1, iv p2, iv (3 : Int32), iv (0 : Int32), .unset, .unset, .unset, .unset]) rfl (XS.iloadN X0.here hx rfl (hb hby at_8) rfl hr))
      show own_G _ p e below s _ _ _ (s₁.setTop (mkF m 9 #[iv p1, iv p2, iv (3 : Int32), iv (0 : Int32), .unset, .unset, .unset, .unset] [(.int (3 : Int32))]))
      obtain ⟨_, _, ⟨T37, L37, k37, n37⟩, -, X37, ⟨Lc37, hQ37, l37, y37, z37⟩, st37⟩ := Jvm.LawKit.callS X0 hx (y := (⟨"com/example/meerkat/meerkat/ObjectKindNamesPinLaw", "kind", "(I)Lcom/example/meerkat/meerkat/ObjectKind;"⟩ : MethodName)) hown (mvT hZ (hw _ (List.mem_of_getElem? (i := 0) rfl))) (mvT hZ (hw _ (List.mem_of_getElem? (i := 1) rfl))) (mvT hZ (hw _ (List.mem_of_getElem? (i := 2) rfl))) (mvT hZ (hw _ (List.mem_of_getElem? (i := 3) rfl))) (by decide) (backOf (W := 0) (rm1_3 l Z a0 hw [] wV h0 n0 Z0 S_VIEW) hZ (hw _ (List.mem_of_getElem? (i := 3) rfl)) (hw _ (List.mem_of_getElem? (i := 2) rfl)) (by decide) (by decide)) (g := (mkF m 9 #[iv p1, iv p2, iv (3 : Int32), iv (0 : Int32), .unset, .unset, .unset, .unset] [(.int (3 : Int32))])) rfl (by rw [hml]; rfl) (argsL := [(.int (3 : Int32))]) (rest := []) (lenOf pd__I_Lcom_example_meerkat_meerkat_ObjectKind_ rfl) rfl (by show 2 * 0 + _ ≤ _; exact Nat.le_of_eq rfl) (hb hby at_9) (fun _ _ => ⟨rfl, e0, (by decide : 0 + 0 ≤ _), (by decide : 0 + 0 ≤ _)⟩)
      dsimp only [Pt.U, Pt.locs, Pt.cells, Pt.slots] at X37 l37 y37 z37 st37 hQ37
      subst l37 y37 z37
      obtain ⟨rfl, N37q, e37⟩ := hQ37
      have N37 := Fr.app N0 N37q
      refine own_go ?_ (fun target hr => st37 _ (XS.astore X37.here hx rfl (hb hby at_12) rfl rfl (l' := #[iv p1, iv p2, iv (3 : Int32), iv (0 : Int32), rv wV, .unset, .unset, .unset]) rfl (XS.iloadN X37.here hx rfl (hb hby at_14) rfl hr)))
      show own_G _ p e below s _ _ _ (T37.setTop (mkF m 15 #[iv p1, iv p2, iv (3 : Int32), iv (0 : Int32), rv wV, .unset, .unset, .unset] [(.int (0 : Int32))]))
      obtain ⟨_, _, ⟨T38, L38, k38, n38⟩, -, X38, ⟨Lc38, hQ38, l38, y38, z38⟩, st38⟩ := Jvm.LawKit.callS X37 hx (y := (⟨"com/example/meerkat/meerkat/ObjectKindNamesPinLaw", "kind", "(I)Lcom/example/meerkat/meerkat/ObjectKind;"⟩ : MethodName)) hown (mvT hZ (hw _ (List.mem_of_getElem? (i := 0) rfl))) (mvT hZ (hw _ (List.mem_of_getElem? (i := 1) rfl))) (mvT hZ (hw _ (List.mem_of_getElem? (i := 2) rfl))) (mvT hZ (hw _ (List.mem_of_getElem? (i := 3) rfl))) (by decide) (backOf (W := 0) (rm1_0 l Z a0 hw [] wD h0 n0 Z0 S_DATABASE) hZ (hw _ (List.mem_of_getElem? (i := 3) rfl)) (hw _ (List.mem_of_getElem? (i := 2) rfl)) (by decide) (by decide)) (g := (mkF m 15 #[iv p1, iv p2, iv (3 : Int32), iv (0 : Int32), rv wV, .unset, .unset, .unset] [(.int (0 : Int32))])) rfl (by rw [hml]; rfl) (argsL := [(.int (0 : Int32))]) (rest := []) (lenOf pd__I_Lcom_example_meerkat_meerkat_ObjectKind_ rfl) rfl (by show 2 * 0 + _ ≤ _; exact Nat.le_of_eq rfl) (hb hby at_15) (fun _ _ => ⟨rfl, e37, (by decide : 0 + 0 ≤ _), (by decide : 0 + 0 ≤ _)⟩)
      dsimp only [Pt.U, Pt.locs, Pt.cells, Pt.slots] at X38 l38 y38 z38 st38 hQ38
      subst l38 y38 z38
      obtain ⟨rfl, N38q, e38⟩ := hQ38
      have N38 := Fr.app N37 N38q
      refine own_go ?_ (fun target hr => st38 _ (XS.astore X38.here hx rfl (hb hby at_18) rfl rfl (l' := #[iv p1, iv p2, iv (3 : Int32), iv (0 : Int32), rv wV, rv wD, .unset, .unset]) rfl (X38.ldcI hx hown (mvT hZ (hw _ (List.mem_of_getElem? (i := 9) rfl))) rfl (hb hby at_20) (XS.istore X38.here hx rfl (hb hby at_22) rfl (l' := #[iv p1, iv p2, iv (3 : Int32), iv (0 : Int32), rv wV, rv wD, iv (35873 : Int32), .unset]) rfl (XS.iload X38.here hx rfl (hb hby at_24) rfl (XS.iloadN X38.here hx rfl (hb hby at_26) rfl (XS.iconst X38.here hx rfl (hb hby at_27) (XS.imul X38.here hx rfl (hb hby at_28) rfl hr))))))))
      show own_G _ p e below s _ _ _ (T38.setTop (mkF m 29 #[iv p1, iv p2, iv (3 : Int32), iv (0 : Int32), rv wV, rv wD, iv (35873 : Int32), .unset] [(.int (12 : Int32)), (.int (35873 : Int32))]))
      refine own_go ?_ (fun target hr => XS.iloadN X38.here hx rfl (hb hby at_29) rfl (XS.iadd X38.here hx rfl (hb hby at_30) rfl (XS.iushr X38.here hx rfl (hb hby at_31) rfl (XS.iconst X38.here hx rfl (hb hby at_32) (XS.iand X38.here hx rfl (hb hby at_33) rfl (XS.ifYes X38.here hx rfl (pc0 := 34) (pc' := 41) rfl (hb hby at_34) rfl ((if0 _ _).trans (teq (by decide : (0 : Int32) = (0 : Int32))).1) (by decide) (by decide) (XS.iconst X38.here hx rfl (hb hby at_41) (XS.istore X38.here hx rfl (hb hby at_42) rfl (l' := #[iv p1, iv p2, iv (3 : Int32), iv (0 : Int32), rv wV, rv wD, iv (35873 : Int32), iv (0 : Int32)]) rfl hr))))))))
      show own_G _ p e below s _ _ _ (T38.setTop (mkF m 44 #[iv p1, iv p2, iv (3 : Int32), iv (0 : Int32), rv wV, rv wD, iv (35873 : Int32), iv (0 : Int32)] []))
      refine own_go ?_ (fun target hr => XS.aload X38.here hx rfl (hb hby at_44) rfl rfl (XS.aload X38.here hx rfl (hb hby at_46) rfl rfl hr))
      show own_G _ p e below s _ _ _ (T38.setTop (mkF m 48 #[iv p1, iv p2, iv (3 : Int32), iv (0 : Int32), rv wV, rv wD, iv (35873 : Int32), iv (0 : Int32)] [(.ref wD), (.ref wV)]))
      obtain ⟨cq39, kq39, q39a, q39b, q39c⟩ := isOf hZ e38 E_wV
      obtain ⟨_, _, ⟨T39, L39, k39, n39⟩, -, X39, ⟨Lc39, hQ39, l39, y39, z39⟩, st39⟩ := X38.virtualBack hx (y := (⟨"com/example/meerkat/meerkat/ObjectKind", "names", "(Lcom/example/meerkat/meerkat/ObjectKind;)Z"⟩ : MethodName)) (z := (⟨"com/example/meerkat/meerkat/ObjectKind", "names", "(Lcom/example/meerkat/meerkat/ObjectKind;)Z"⟩ : MethodName)) hown (mvT hZ (hw _ (List.mem_of_getElem? (i := 10) rfl))) (mvT hZ (hw _ (List.mem_of_getElem? (i := 11) rfl))) (notFace_of_selects (args := #[]) (mvT hZ (hw _ (List.mem_of_getElem? (i := 13) rfl)))) (mvT hZ (hw _ (List.mem_of_getElem? (i := 13) rfl))) (mvT hZ (hw _ (List.mem_of_getElem? (i := 12) rfl))) (by decide) (backOf (W := 0) (rm2_n l Z a0 hw [] wV wD wT h0 n0 Z0 S_TABLE n_wD_wV n_wV_wT) hZ (hw _ (List.mem_of_getElem? (i := 14) rfl)) (hw _ (List.mem_of_getElem? (i := 5) rfl)) (by decide) (by decide)) q39a q39c (g := (mkF m 48 #[iv p1, iv p2, iv (3 : Int32), iv (0 : Int32), rv wV, rv wD, iv (35873 : Int32), iv (0 : Int32)] [(.ref wD), (.ref wV)])) rfl (by rw [hml]; rfl) (Steps.refl _) (argsL := [(.ref wD)]) (rest := []) (lenOf pd__Lcom_example_meerkat_meerkat_ObjectKind__Z rfl) rfl (by show 2 * 0 + _ ≤ _; exact Nat.le_of_eq rfl) (hb hby at_48) (fun _ _ => ⟨rfl, e38, (by decide : 0 + 0 ≤ _), (by decide : 0 + 0 ≤ _)⟩)
      dsimp only [Pt.U, Pt.locs, Pt.cells, Pt.slots] at X39 l39 y39 z39 st39 hQ39
      subst l39 y39 z39
      obtain ⟨rfl, N39q, e39⟩ := hQ39
      have N39 := Fr.app N38 N39q
      refine own_go ?_ (fun target hr => st39.trans (XS.iload X39.here hx rfl (hb hby at_51) rfl (XS.icmpNo X39.here hx rfl (hb hby at_53) rfl (teq (by decide : (0 : Int32) = (0 : Int32))).2 (XS.iconst X39.here hx rfl (hb hby at_56) (XS.goto X39.here hx rfl (pc0 := 57) (pc' := 61) rfl (hb hby at_57) (by decide) (by decide) hr)))))
      show own_G _ p e below s _ _ _ (T39.setTop (mkF m 61 #[iv p1, iv p2, iv (3 : Int32), iv (0 : Int32), rv wV, rv wD, iv (35873 : Int32), iv (0 : Int32)] [(.int (1 : Int32))]))
      obtain ⟨fs, hr, hrun, hended, hW, hsame⟩ := X39.leave (v := some (.int (1 : Int32))) (fun h => by rw [Bd.returns] at h; cases h)
      exact ⟨_, _, retN X39 hx (t := .boolean) Bd.returns (by simp) (hb hby at_61) hr, hrun, hended, _, _, rfl, ⟨rfl, N39, trivial⟩, ⟨_, rfl⟩, hW, hsame.mono (by decide) (by decide)⟩
    ·
      rw [hs7_1]
      show own_G _ p e below s _ _ _ (s₁.setTop (mkF m 7 #[iv p1, iv p2, iv (3 : Int32), .unset, .unset, .unset, .unset, .unset] [(.int (1 : Int32))]))
      refine own_go ?_ (fun target hr => XS.istoreN X0.here hx rfl (hb hby at_7) rfl (l' := #[iv p1, iv p2, iv (3 : Int32), iv (1 : Int32), .unset, .unset, .unset, .unset]) rfl (XS.iloadN X0.here hx rfl (hb hby at_8) rfl hr))
      show own_G _ p e below s _ _ _ (s₁.setTop (mkF m 9 #[iv p1, iv p2, iv (3 : Int32), iv (1 : Int32), .unset, .unset, .unset, .unset] [(.int (3 : Int32))]))
      obtain ⟨_, _, ⟨T40, L40, k40, n40⟩, -, X40, ⟨Lc40, hQ40, l40, y40, z40⟩, st40⟩ := Jvm.LawKit.callS X0 hx (y := (⟨"com/example/meerkat/meerkat/ObjectKindNamesPinLaw", "kind", "(I)Lcom/example/meerkat/meerkat/ObjectKind;"⟩ : MethodName)) hown (mvT hZ (hw _ (List.mem_of_getElem? (i := 0) rfl))) (mvT hZ (hw _ (List.mem_of_getElem? (i := 1) rfl))) (mvT hZ (hw _ (List.mem_of_getElem? (i := 2) rfl))) (mvT hZ (hw _ (List.mem_of_getElem? (i := 3) rfl))) (by decide) (backOf (W := 0) (rm1_3 l Z a0 hw [] wV h0 n0 Z0 S_VIEW) hZ (hw _ (List.mem_of_getElem? (i := 3) rfl)) (hw _ (List.mem_of_getElem? (i := 2) rfl)) (by decide) (by decide)) (g := (mkF m 9 #[iv p1, iv p2, iv (3 : Int32), iv (1 : Int32), .unset, .unset, .unset, .unset] [(.int (3 : Int32))])) rfl (by rw [hml]; rfl) (argsL := [(.int (3 : Int32))]) (rest := []) (lenOf pd__I_Lcom_example_meerkat_meerkat_ObjectKind_ rfl) rfl (by show 2 * 0 + _ ≤ _; exact Nat.le_of_eq rfl) (hb hby at_9) (fun _ _ => ⟨rfl, e0, (by decide : 0 + 0 ≤ _), (by decide : 0 + 0 ≤ _)⟩)
      dsimp only [Pt.U, Pt.locs, Pt.cells, Pt.slots] at X40 l40 y40 z40 st40 hQ40
      subst l40 y40 z40
      obtain ⟨rfl, N40q, e40⟩ := hQ40
      have N40 := Fr.app N0 N40q
      refine own_go ?_ (fun target hr => st40 _ (XS.astore X40.here hx rfl (hb hby at_12) rfl rfl (l' := #[iv p1, iv p2, iv (3 : Int32), iv (1 : Int32), rv wV, .unset, .unset, .unset]) rfl (XS.iloadN X40.here hx rfl (hb hby at_14) rfl hr)))
      show own_G _ p e below s _ _ _ (T40.setTop (mkF m 15 #[iv p1, iv p2, iv (3 : Int32), iv (1 : Int32), rv wV, .unset, .unset, .unset] [(.int (1 : Int32))]))
      obtain ⟨_, _, ⟨T41, L41, k41, n41⟩, -, X41, ⟨Lc41, hQ41, l41, y41, z41⟩, st41⟩ := Jvm.LawKit.callS X40 hx (y := (⟨"com/example/meerkat/meerkat/ObjectKindNamesPinLaw", "kind", "(I)Lcom/example/meerkat/meerkat/ObjectKind;"⟩ : MethodName)) hown (mvT hZ (hw _ (List.mem_of_getElem? (i := 0) rfl))) (mvT hZ (hw _ (List.mem_of_getElem? (i := 1) rfl))) (mvT hZ (hw _ (List.mem_of_getElem? (i := 2) rfl))) (mvT hZ (hw _ (List.mem_of_getElem? (i := 3) rfl))) (by decide) (backOf (W := 0) (rm1_1 l Z a0 hw [] wS h0 n0 Z0 S_SCHEMA) hZ (hw _ (List.mem_of_getElem? (i := 3) rfl)) (hw _ (List.mem_of_getElem? (i := 2) rfl)) (by decide) (by decide)) (g := (mkF m 15 #[iv p1, iv p2, iv (3 : Int32), iv (1 : Int32), rv wV, .unset, .unset, .unset] [(.int (1 : Int32))])) rfl (by rw [hml]; rfl) (argsL := [(.int (1 : Int32))]) (rest := []) (lenOf pd__I_Lcom_example_meerkat_meerkat_ObjectKind_ rfl) rfl (by show 2 * 0 + _ ≤ _; exact Nat.le_of_eq rfl) (hb hby at_15) (fun _ _ => ⟨rfl, e40, (by decide : 0 + 0 ≤ _), (by decide : 0 + 0 ≤ _)⟩)
      dsimp only [Pt.U, Pt.locs, Pt.cells, Pt.slots] at X41 l41 y41 z41 st41 hQ41
      subst l41 y41 z41
      obtain ⟨rfl, N41q, e41⟩ := hQ41
      have N41 := Fr.app N40 N41q
      refine own_go ?_ (fun target hr => st41 _ (XS.astore X41.here hx rfl (hb hby at_18) rfl rfl (l' := #[iv p1, iv p2, iv (3 : Int32), iv (1 : Int32), rv wV, rv wS, .unset, .unset]) rfl (X41.ldcI hx hown (mvT hZ (hw _ (List.mem_of_getElem? (i := 9) rfl))) rfl (hb hby at_20) (XS.istore X41.here hx rfl (hb hby at_22) rfl (l' := #[iv p1, iv p2, iv (3 : Int32), iv (1 : Int32), rv wV, rv wS, iv (35873 : Int32), .unset]) rfl (XS.iload X41.here hx rfl (hb hby at_24) rfl (XS.iloadN X41.here hx rfl (hb hby at_26) rfl (XS.iconst X41.here hx rfl (hb hby at_27) (XS.imul X41.here hx rfl (hb hby at_28) rfl hr))))))))
      show own_G _ p e below s _ _ _ (T41.setTop (mkF m 29 #[iv p1, iv p2, iv (3 : Int32), iv (1 : Int32), rv wV, rv wS, iv (35873 : Int32), .unset] [(.int (12 : Int32)), (.int (35873 : Int32))]))
      refine own_go ?_ (fun target hr => XS.iloadN X41.here hx rfl (hb hby at_29) rfl (XS.iadd X41.here hx rfl (hb hby at_30) rfl (XS.iushr X41.here hx rfl (hb hby at_31) rfl (XS.iconst X41.here hx rfl (hb hby at_32) (XS.iand X41.here hx rfl (hb hby at_33) rfl (XS.ifYes X41.here hx rfl (pc0 := 34) (pc' := 41) rfl (hb hby at_34) rfl ((if0 _ _).trans (teq (by decide : (0 : Int32) = (0 : Int32))).1) (by decide) (by decide) (XS.iconst X41.here hx rfl (hb hby at_41) (XS.istore X41.here hx rfl (hb hby at_42) rfl (l' := #[iv p1, iv p2, iv (3 : Int32), iv (1 : Int32), rv wV, rv wS, iv (35873 : Int32), iv (0 : Int32)]) rfl hr))))))))
      show own_G _ p e below s _ _ _ (T41.setTop (mkF m 44 #[iv p1, iv p2, iv (3 : Int32), iv (1 : Int32), rv wV, rv wS, iv (35873 : Int32), iv (0 : Int32)] []))
      refine own_go ?_ (fun target hr => XS.aload X41.here hx rfl (hb hby at_44) rfl rfl (XS.aload X41.here hx rfl (hb hby at_46) rfl rfl hr))
      show own_G _ p e below s _ _ _ (T41.setTop (mkF m 48 #[iv p1, iv p2, iv (3 : Int32), iv (1 : Int32), rv wV, rv wS, iv (35873 : Int32), iv (0 : Int32)] [(.ref wS), (.ref wV)]))
      obtain ⟨cq42, kq42, q42a, q42b, q42c⟩ := isOf hZ e41 E_wV
      obtain ⟨_, _, ⟨T42, L42, k42, n42⟩, -, X42, ⟨Lc42, hQ42, l42, y42, z42⟩, st42⟩ := X41.virtualBack hx (y := (⟨"com/example/meerkat/meerkat/ObjectKind", "names", "(Lcom/example/meerkat/meerkat/ObjectKind;)Z"⟩ : MethodName)) (z := (⟨"com/example/meerkat/meerkat/ObjectKind", "names", "(Lcom/example/meerkat/meerkat/ObjectKind;)Z"⟩ : MethodName)) hown (mvT hZ (hw _ (List.mem_of_getElem? (i := 10) rfl))) (mvT hZ (hw _ (List.mem_of_getElem? (i := 11) rfl))) (notFace_of_selects (args := #[]) (mvT hZ (hw _ (List.mem_of_getElem? (i := 13) rfl)))) (mvT hZ (hw _ (List.mem_of_getElem? (i := 13) rfl))) (mvT hZ (hw _ (List.mem_of_getElem? (i := 12) rfl))) (by decide) (backOf (W := 0) (rm2_n l Z a0 hw [] wV wS wT h0 n0 Z0 S_TABLE n_wS_wV n_wV_wT) hZ (hw _ (List.mem_of_getElem? (i := 14) rfl)) (hw _ (List.mem_of_getElem? (i := 5) rfl)) (by decide) (by decide)) q42a q42c (g := (mkF m 48 #[iv p1, iv p2, iv (3 : Int32), iv (1 : Int32), rv wV, rv wS, iv (35873 : Int32), iv (0 : Int32)] [(.ref wS), (.ref wV)])) rfl (by rw [hml]; rfl) (Steps.refl _) (argsL := [(.ref wS)]) (rest := []) (lenOf pd__Lcom_example_meerkat_meerkat_ObjectKind__Z rfl) rfl (by show 2 * 0 + _ ≤ _; exact Nat.le_of_eq rfl) (hb hby at_48) (fun _ _ => ⟨rfl, e41, (by decide : 0 + 0 ≤ _), (by decide : 0 + 0 ≤ _)⟩)
      dsimp only [Pt.U, Pt.locs, Pt.cells, Pt.slots] at X42 l42 y42 z42 st42 hQ42
      subst l42 y42 z42
      obtain ⟨rfl, N42q, e42⟩ := hQ42
      have N42 := Fr.app N41 N42q
      refine own_go ?_ (fun target hr => st42.trans (XS.iload X42.here hx rfl (hb hby at_51) rfl (XS.icmpNo X42.here hx rfl (hb hby at_53) rfl (teq (by decide : (0 : Int32) = (0 : Int32))).2 (XS.iconst X42.here hx rfl (hb hby at_56) (XS.goto X42.here hx rfl (pc0 := 57) (pc' := 61) rfl (hb hby at_57) (by decide) (by decide) hr)))))
      show own_G _ p e below s _ _ _ (T42.setTop (mkF m 61 #[iv p1, iv p2, iv (3 : Int32), iv (1 : Int32), rv wV, rv wS, iv (35873 : Int32), iv (0 : Int32)] [(.int (1 : Int32))]))
      obtain ⟨fs, hr, hrun, hended, hW, hsame⟩ := X42.leave (v := some (.int (1 : Int32))) (fun h => by rw [Bd.returns] at h; cases h)
      exact ⟨_, _, retN X42 hx (t := .boolean) Bd.returns (by simp) (hb hby at_61) hr, hrun, hended, _, _, rfl, ⟨rfl, N42, trivial⟩, ⟨_, rfl⟩, hW, hsame.mono (by decide) (by decide)⟩
    ·
      rw [hs7_2]
      show own_G _ p e below s _ _ _ (s₁.setTop (mkF m 7 #[iv p1, iv p2, iv (3 : Int32), .unset, .unset, .unset, .unset, .unset] [(.int (2 : Int32))]))
      refine own_go ?_ (fun target hr => XS.istoreN X0.here hx rfl (hb hby at_7) rfl (l' := #[iv p1, iv p2, iv (3 : Int32), iv (2 : Int32), .unset, .unset, .unset, .unset]) rfl (XS.iloadN X0.here hx rfl (hb hby at_8) rfl hr))
      show own_G _ p e below s _ _ _ (s₁.setTop (mkF m 9 #[iv p1, iv p2, iv (3 : Int32), iv (2 : Int32), .unset, .unset, .unset, .unset] [(.int (3 : Int32))]))
      obtain ⟨_, _, ⟨T43, L43, k43, n43⟩, -, X43, ⟨Lc43, hQ43, l43, y43, z43⟩, st43⟩ := Jvm.LawKit.callS X0 hx (y := (⟨"com/example/meerkat/meerkat/ObjectKindNamesPinLaw", "kind", "(I)Lcom/example/meerkat/meerkat/ObjectKind;"⟩ : MethodName)) hown (mvT hZ (hw _ (List.mem_of_getElem? (i := 0) rfl))) (mvT hZ (hw _ (List.mem_of_getElem? (i := 1) rfl))) (mvT hZ (hw _ (List.mem_of_getElem? (i := 2) rfl))) (mvT hZ (hw _ (List.mem_of_getElem? (i := 3) rfl))) (by decide) (backOf (W := 0) (rm1_3 l Z a0 hw [] wV h0 n0 Z0 S_VIEW) hZ (hw _ (List.mem_of_getElem? (i := 3) rfl)) (hw _ (List.mem_of_getElem? (i := 2) rfl)) (by decide) (by decide)) (g := (mkF m 9 #[iv p1, iv p2, iv (3 : Int32), iv (2 : Int32), .unset, .unset, .unset, .unset] [(.int (3 : Int32))])) rfl (by rw [hml]; rfl) (argsL := [(.int (3 : Int32))]) (rest := []) (lenOf pd__I_Lcom_example_meerkat_meerkat_ObjectKind_ rfl) rfl (by show 2 * 0 + _ ≤ _; exact Nat.le_of_eq rfl) (hb hby at_9) (fun _ _ => ⟨rfl, e0, (by decide : 0 + 0 ≤ _), (by decide : 0 + 0 ≤ _)⟩)
      dsimp only [Pt.U, Pt.locs, Pt.cells, Pt.slots] at X43 l43 y43 z43 st43 hQ43
      subst l43 y43 z43
      obtain ⟨rfl, N43q, e43⟩ := hQ43
      have N43 := Fr.app N0 N43q
      refine own_go ?_ (fun target hr => st43 _ (XS.astore X43.here hx rfl (hb hby at_12) rfl rfl (l' := #[iv p1, iv p2, iv (3 : Int32), iv (2 : Int32), rv wV, .unset, .unset, .unset]) rfl (XS.iloadN X43.here hx rfl (hb hby at_14) rfl hr)))
      show own_G _ p e below s _ _ _ (T43.setTop (mkF m 15 #[iv p1, iv p2, iv (3 : Int32), iv (2 : Int32), rv wV, .unset, .unset, .unset] [(.int (2 : Int32))]))
      obtain ⟨_, _, ⟨T44, L44, k44, n44⟩, -, X44, ⟨Lc44, hQ44, l44, y44, z44⟩, st44⟩ := Jvm.LawKit.callS X43 hx (y := (⟨"com/example/meerkat/meerkat/ObjectKindNamesPinLaw", "kind", "(I)Lcom/example/meerkat/meerkat/ObjectKind;"⟩ : MethodName)) hown (mvT hZ (hw _ (List.mem_of_getElem? (i := 0) rfl))) (mvT hZ (hw _ (List.mem_of_getElem? (i := 1) rfl))) (mvT hZ (hw _ (List.mem_of_getElem? (i := 2) rfl))) (mvT hZ (hw _ (List.mem_of_getElem? (i := 3) rfl))) (by decide) (backOf (W := 0) (rm1_2 l Z a0 hw [] wT h0 n0 Z0 S_TABLE) hZ (hw _ (List.mem_of_getElem? (i := 3) rfl)) (hw _ (List.mem_of_getElem? (i := 2) rfl)) (by decide) (by decide)) (g := (mkF m 15 #[iv p1, iv p2, iv (3 : Int32), iv (2 : Int32), rv wV, .unset, .unset, .unset] [(.int (2 : Int32))])) rfl (by rw [hml]; rfl) (argsL := [(.int (2 : Int32))]) (rest := []) (lenOf pd__I_Lcom_example_meerkat_meerkat_ObjectKind_ rfl) rfl (by show 2 * 0 + _ ≤ _; exact Nat.le_of_eq rfl) (hb hby at_15) (fun _ _ => ⟨rfl, e43, (by decide : 0 + 0 ≤ _), (by decide : 0 + 0 ≤ _)⟩)
      dsimp only [Pt.U, Pt.locs, Pt.cells, Pt.slots] at X44 l44 y44 z44 st44 hQ44
      subst l44 y44 z44
      obtain ⟨rfl, N44q, e44⟩ := hQ44
      have N44 := Fr.app N43 N44q
      refine own_go ?_ (fun target hr => st44 _ (XS.astore X44.here hx rfl (hb hby at_18) rfl rfl (l' := #[iv p1, iv p2, iv (3 : Int32), iv (2 : Int32), rv wV, rv wT, .unset, .unset]) rfl (X44.ldcI hx hown (mvT hZ (hw _ (List.mem_of_getElem? (i := 9) rfl))) rfl (hb hby at_20) (XS.istore X44.here hx rfl (hb hby at_22) rfl (l' := #[iv p1, iv p2, iv (3 : Int32), iv (2 : Int32), rv wV, rv wT, iv (35873 : Int32), .unset]) rfl (XS.iload X44.here hx rfl (hb hby at_24) rfl (XS.iloadN X44.here hx rfl (hb hby at_26) rfl (XS.iconst X44.here hx rfl (hb hby at_27) (XS.imul X44.here hx rfl (hb hby at_28) rfl hr))))))))
      show own_G _ p e below s _ _ _ (T44.setTop (mkF m 29 #[iv p1, iv p2, iv (3 : Int32), iv (2 : Int32), rv wV, rv wT, iv (35873 : Int32), .unset] [(.int (12 : Int32)), (.int (35873 : Int32))]))
      refine own_go ?_ (fun target hr => XS.iloadN X44.here hx rfl (hb hby at_29) rfl (XS.iadd X44.here hx rfl (hb hby at_30) rfl (XS.iushr X44.here hx rfl (hb hby at_31) rfl (XS.iconst X44.here hx rfl (hb hby at_32) (XS.iand X44.here hx rfl (hb hby at_33) rfl (XS.ifYes X44.here hx rfl (pc0 := 34) (pc' := 41) rfl (hb hby at_34) rfl ((if0 _ _).trans (teq (by decide : (0 : Int32) = (0 : Int32))).1) (by decide) (by decide) (XS.iconst X44.here hx rfl (hb hby at_41) (XS.istore X44.here hx rfl (hb hby at_42) rfl (l' := #[iv p1, iv p2, iv (3 : Int32), iv (2 : Int32), rv wV, rv wT, iv (35873 : Int32), iv (0 : Int32)]) rfl hr))))))))
      show own_G _ p e below s _ _ _ (T44.setTop (mkF m 44 #[iv p1, iv p2, iv (3 : Int32), iv (2 : Int32), rv wV, rv wT, iv (35873 : Int32), iv (0 : Int32)] []))
      refine own_go ?_ (fun target hr => XS.aload X44.here hx rfl (hb hby at_44) rfl rfl (XS.aload X44.here hx rfl (hb hby at_46) rfl rfl hr))
      show own_G _ p e below s _ _ _ (T44.setTop (mkF m 48 #[iv p1, iv p2, iv (3 : Int32), iv (2 : Int32), rv wV, rv wT, iv (35873 : Int32), iv (0 : Int32)] [(.ref wT), (.ref wV)]))
      obtain ⟨cq45, kq45, q45a, q45b, q45c⟩ := isOf hZ e44 E_wV
      obtain ⟨_, _, ⟨T45, L45, k45, n45⟩, -, X45, ⟨Lc45, hQ45, l45, y45, z45⟩, st45⟩ := X44.virtualBack hx (y := (⟨"com/example/meerkat/meerkat/ObjectKind", "names", "(Lcom/example/meerkat/meerkat/ObjectKind;)Z"⟩ : MethodName)) (z := (⟨"com/example/meerkat/meerkat/ObjectKind", "names", "(Lcom/example/meerkat/meerkat/ObjectKind;)Z"⟩ : MethodName)) hown (mvT hZ (hw _ (List.mem_of_getElem? (i := 10) rfl))) (mvT hZ (hw _ (List.mem_of_getElem? (i := 11) rfl))) (notFace_of_selects (args := #[]) (mvT hZ (hw _ (List.mem_of_getElem? (i := 13) rfl)))) (mvT hZ (hw _ (List.mem_of_getElem? (i := 13) rfl))) (mvT hZ (hw _ (List.mem_of_getElem? (i := 12) rfl))) (by decide) (backOf (W := 0) (rm2_n l Z a0 hw [] wV wT wT h0 n0 Z0 S_TABLE n_wT_wV n_wV_wT) hZ (hw _ (List.mem_of_getElem? (i := 14) rfl)) (hw _ (List.mem_of_getElem? (i := 5) rfl)) (by decide) (by decide)) q45a q45c (g := (mkF m 48 #[iv p1, iv p2, iv (3 : Int32), iv (2 : Int32), rv wV, rv wT, iv (35873 : Int32), iv (0 : Int32)] [(.ref wT), (.ref wV)])) rfl (by rw [hml]; rfl) (Steps.refl _) (argsL := [(.ref wT)]) (rest := []) (lenOf pd__Lcom_example_meerkat_meerkat_ObjectKind__Z rfl) rfl (by show 2 * 0 + _ ≤ _; exact Nat.le_of_eq rfl) (hb hby at_48) (fun _ _ => ⟨rfl, e44, (by decide : 0 + 0 ≤ _), (by decide : 0 + 0 ≤ _)⟩)
      dsimp only [Pt.U, Pt.locs, Pt.cells, Pt.slots] at X45 l45 y45 z45 st45 hQ45
      subst l45 y45 z45
      obtain ⟨rfl, N45q, e45⟩ := hQ45
      have N45 := Fr.app N44 N45q
      refine own_go ?_ (fun target hr => st45.trans (XS.iload X45.here hx rfl (hb hby at_51) rfl (XS.icmpNo X45.here hx rfl (hb hby at_53) rfl (teq (by decide : (0 : Int32) = (0 : Int32))).2 (XS.iconst X45.here hx rfl (hb hby at_56) (XS.goto X45.here hx rfl (pc0 := 57) (pc' := 61) rfl (hb hby at_57) (by decide) (by decide) hr)))))
      show own_G _ p e below s _ _ _ (T45.setTop (mkF m 61 #[iv p1, iv p2, iv (3 : Int32), iv (2 : Int32), rv wV, rv wT, iv (35873 : Int32), iv (0 : Int32)] [(.int (1 : Int32))]))
      obtain ⟨fs, hr, hrun, hended, hW, hsame⟩ := X45.leave (v := some (.int (1 : Int32))) (fun h => by rw [Bd.returns] at h; cases h)
      exact ⟨_, _, retN X45 hx (t := .boolean) Bd.returns (by simp) (hb hby at_61) hr, hrun, hended, _, _, rfl, ⟨rfl, N45, trivial⟩, ⟨_, rfl⟩, hW, hsame.mono (by decide) (by decide)⟩
    ·
      rw [hs7_3]
      show own_G _ p e below s _ _ _ (s₁.setTop (mkF m 7 #[iv p1, iv p2, iv (3 : Int32), .unset, .unset, .unset, .unset, .unset] [(.int (3 : Int32))]))
      refine own_go ?_ (fun target hr => XS.istoreN X0.here hx rfl (hb hby at_7) rfl (l' := #[iv p1, iv p2, iv (3 : Int32), iv (3 : Int32), .unset, .unset, .unset, .unset]) rfl (XS.iloadN X0.here hx rfl (hb hby at_8) rfl hr))
      show own_G _ p e below s _ _ _ (s₁.setTop (mkF m 9 #[iv p1, iv p2, iv (3 : Int32), iv (3 : Int32), .unset, .unset, .unset, .unset] [(.int (3 : Int32))]))
      obtain ⟨_, _, ⟨T46, L46, k46, n46⟩, -, X46, ⟨Lc46, hQ46, l46, y46, z46⟩, st46⟩ := Jvm.LawKit.callS X0 hx (y := (⟨"com/example/meerkat/meerkat/ObjectKindNamesPinLaw", "kind", "(I)Lcom/example/meerkat/meerkat/ObjectKind;"⟩ : MethodName)) hown (mvT hZ (hw _ (List.mem_of_getElem? (i := 0) rfl))) (mvT hZ (hw _ (List.mem_of_getElem? (i := 1) rfl))) (mvT hZ (hw _ (List.mem_of_getElem? (i := 2) rfl))) (mvT hZ (hw _ (List.mem_of_getElem? (i := 3) rfl))) (by decide) (backOf (W := 0) (rm1_3 l Z a0 hw [] wV h0 n0 Z0 S_VIEW) hZ (hw _ (List.mem_of_getElem? (i := 3) rfl)) (hw _ (List.mem_of_getElem? (i := 2) rfl)) (by decide) (by decide)) (g := (mkF m 9 #[iv p1, iv p2, iv (3 : Int32), iv (3 : Int32), .unset, .unset, .unset, .unset] [(.int (3 : Int32))])) rfl (by rw [hml]; rfl) (argsL := [(.int (3 : Int32))]) (rest := []) (lenOf pd__I_Lcom_example_meerkat_meerkat_ObjectKind_ rfl) rfl (by show 2 * 0 + _ ≤ _; exact Nat.le_of_eq rfl) (hb hby at_9) (fun _ _ => ⟨rfl, e0, (by decide : 0 + 0 ≤ _), (by decide : 0 + 0 ≤ _)⟩)
      dsimp only [Pt.U, Pt.locs, Pt.cells, Pt.slots] at X46 l46 y46 z46 st46 hQ46
      subst l46 y46 z46
      obtain ⟨rfl, N46q, e46⟩ := hQ46
      have N46 := Fr.app N0 N46q
      refine own_go ?_ (fun target hr => st46 _ (XS.astore X46.here hx rfl (hb hby at_12) rfl rfl (l' := #[iv p1, iv p2, iv (3 : Int32), iv (3 : Int32), rv wV, .unset, .unset, .unset]) rfl (XS.iloadN X46.here hx rfl (hb hby at_14) rfl hr)))
      show own_G _ p e below s _ _ _ (T46.setTop (mkF m 15 #[iv p1, iv p2, iv (3 : Int32), iv (3 : Int32), rv wV, .unset, .unset, .unset] [(.int (3 : Int32))]))
      obtain ⟨_, _, ⟨T47, L47, k47, n47⟩, -, X47, ⟨Lc47, hQ47, l47, y47, z47⟩, st47⟩ := Jvm.LawKit.callS X46 hx (y := (⟨"com/example/meerkat/meerkat/ObjectKindNamesPinLaw", "kind", "(I)Lcom/example/meerkat/meerkat/ObjectKind;"⟩ : MethodName)) hown (mvT hZ (hw _ (List.mem_of_getElem? (i := 0) rfl))) (mvT hZ (hw _ (List.mem_of_getElem? (i := 1) rfl))) (mvT hZ (hw _ (List.mem_of_getElem? (i := 2) rfl))) (mvT hZ (hw _ (List.mem_of_getElem? (i := 3) rfl))) (by decide) (backOf (W := 0) (rm1_3 l Z a0 hw [] wV h0 n0 Z0 S_VIEW) hZ (hw _ (List.mem_of_getElem? (i := 3) rfl)) (hw _ (List.mem_of_getElem? (i := 2) rfl)) (by decide) (by decide)) (g := (mkF m 15 #[iv p1, iv p2, iv (3 : Int32), iv (3 : Int32), rv wV, .unset, .unset, .unset] [(.int (3 : Int32))])) rfl (by rw [hml]; rfl) (argsL := [(.int (3 : Int32))]) (rest := []) (lenOf pd__I_Lcom_example_meerkat_meerkat_ObjectKind_ rfl) rfl (by show 2 * 0 + _ ≤ _; exact Nat.le_of_eq rfl) (hb hby at_15) (fun _ _ => ⟨rfl, e46, (by decide : 0 + 0 ≤ _), (by decide : 0 + 0 ≤ _)⟩)
      dsimp only [Pt.U, Pt.locs, Pt.cells, Pt.slots] at X47 l47 y47 z47 st47 hQ47
      subst l47 y47 z47
      obtain ⟨rfl, N47q, e47⟩ := hQ47
      have N47 := Fr.app N46 N47q
      refine own_go ?_ (fun target hr => st47 _ (XS.astore X47.here hx rfl (hb hby at_18) rfl rfl (l' := #[iv p1, iv p2, iv (3 : Int32), iv (3 : Int32), rv wV, rv wV, .unset, .unset]) rfl (X47.ldcI hx hown (mvT hZ (hw _ (List.mem_of_getElem? (i := 9) rfl))) rfl (hb hby at_20) (XS.istore X47.here hx rfl (hb hby at_22) rfl (l' := #[iv p1, iv p2, iv (3 : Int32), iv (3 : Int32), rv wV, rv wV, iv (35873 : Int32), .unset]) rfl (XS.iload X47.here hx rfl (hb hby at_24) rfl (XS.iloadN X47.here hx rfl (hb hby at_26) rfl (XS.iconst X47.here hx rfl (hb hby at_27) (XS.imul X47.here hx rfl (hb hby at_28) rfl hr))))))))
      show own_G _ p e below s _ _ _ (T47.setTop (mkF m 29 #[iv p1, iv p2, iv (3 : Int32), iv (3 : Int32), rv wV, rv wV, iv (35873 : Int32), .unset] [(.int (12 : Int32)), (.int (35873 : Int32))]))
      refine own_go ?_ (fun target hr => XS.iloadN X47.here hx rfl (hb hby at_29) rfl (XS.iadd X47.here hx rfl (hb hby at_30) rfl (XS.iushr X47.here hx rfl (hb hby at_31) rfl (XS.iconst X47.here hx rfl (hb hby at_32) (XS.iand X47.here hx rfl (hb hby at_33) rfl (XS.ifNo X47.here hx rfl (hb hby at_34) rfl ((if0 _ _).trans (feq (by decide : ¬ ((1 : Int32) = (0 : Int32)))).1) (XS.iconst X47.here hx rfl (hb hby at_37) (XS.goto X47.here hx rfl (pc0 := 38) (pc' := 42) rfl (hb hby at_38) (by decide) (by decide) hr))))))))
      show own_G _ p e below s _ _ _ (T47.setTop (mkF m 42 #[iv p1, iv p2, iv (3 : Int32), iv (3 : Int32), rv wV, rv wV, iv (35873 : Int32), .unset] [(.int (1 : Int32))]))
      refine own_go ?_ (fun target hr => XS.istore X47.here hx rfl (hb hby at_42) rfl (l' := #[iv p1, iv p2, iv (3 : Int32), iv (3 : Int32), rv wV, rv wV, iv (35873 : Int32), iv (1 : Int32)]) rfl (XS.aload X47.here hx rfl (hb hby at_44) rfl rfl (XS.aload X47.here hx rfl (hb hby at_46) rfl rfl hr)))
      show own_G _ p e below s _ _ _ (T47.setTop (mkF m 48 #[iv p1, iv p2, iv (3 : Int32), iv (3 : Int32), rv wV, rv wV, iv (35873 : Int32), iv (1 : Int32)] [(.ref wV), (.ref wV)]))
      obtain ⟨cq48, kq48, q48a, q48b, q48c⟩ := isOf hZ e47 E_wV
      obtain ⟨_, _, ⟨T48, L48, k48, n48⟩, -, X48, ⟨Lc48, hQ48, l48, y48, z48⟩, st48⟩ := X47.virtualBack hx (y := (⟨"com/example/meerkat/meerkat/ObjectKind", "names", "(Lcom/example/meerkat/meerkat/ObjectKind;)Z"⟩ : MethodName)) (z := (⟨"com/example/meerkat/meerkat/ObjectKind", "names", "(Lcom/example/meerkat/meerkat/ObjectKind;)Z"⟩ : MethodName)) hown (mvT hZ (hw _ (List.mem_of_getElem? (i := 10) rfl))) (mvT hZ (hw _ (List.mem_of_getElem? (i := 11) rfl))) (notFace_of_selects (args := #[]) (mvT hZ (hw _ (List.mem_of_getElem? (i := 13) rfl)))) (mvT hZ (hw _ (List.mem_of_getElem? (i := 13) rfl))) (mvT hZ (hw _ (List.mem_of_getElem? (i := 12) rfl))) (by decide) (backOf (W := 0) (rm2_s l Z a0 hw [] wV h0 n0 Z0 ) hZ (hw _ (List.mem_of_getElem? (i := 14) rfl)) (hw _ (List.mem_of_getElem? (i := 5) rfl)) (by decide) (by decide)) q48a q48c (g := (mkF m 48 #[iv p1, iv p2, iv (3 : Int32), iv (3 : Int32), rv wV, rv wV, iv (35873 : Int32), iv (1 : Int32)] [(.ref wV), (.ref wV)])) rfl (by rw [hml]; rfl) (Steps.refl _) (argsL := [(.ref wV)]) (rest := []) (lenOf pd__Lcom_example_meerkat_meerkat_ObjectKind__Z rfl) rfl (by show 2 * 0 + _ ≤ _; exact Nat.le_of_eq rfl) (hb hby at_48) (fun _ _ => ⟨rfl, e47, (by decide : 0 + 0 ≤ _), (by decide : 0 + 0 ≤ _)⟩)
      dsimp only [Pt.U, Pt.locs, Pt.cells, Pt.slots] at X48 l48 y48 z48 st48 hQ48
      subst l48 y48 z48
      obtain ⟨rfl, N48q, e48⟩ := hQ48
      have N48 := Fr.app N47 N48q
      refine own_go ?_ (fun target hr => st48.trans (XS.iload X48.here hx rfl (hb hby at_51) rfl (XS.icmpNo X48.here hx rfl (hb hby at_53) rfl (teq (by decide : (1 : Int32) = (1 : Int32))).2 (XS.iconst X48.here hx rfl (hb hby at_56) (XS.goto X48.here hx rfl (pc0 := 57) (pc' := 61) rfl (hb hby at_57) (by decide) (by decide) hr)))))
      show own_G _ p e below s _ _ _ (T48.setTop (mkF m 61 #[iv p1, iv p2, iv (3 : Int32), iv (3 : Int32), rv wV, rv wV, iv (35873 : Int32), iv (1 : Int32)] [(.int (1 : Int32))]))
      obtain ⟨fs, hr, hrun, hended, hW, hsame⟩ := X48.leave (v := some (.int (1 : Int32))) (fun h => by rw [Bd.returns] at h; cases h)
      exact ⟨_, _, retN X48 hx (t := .boolean) Bd.returns (by simp) (hb hby at_61) hr, hrun, hended, _, _, rfl, ⟨rfl, N48, trivial⟩, ⟨_, rfl⟩, hW, hsame.mono (by decide) (by decide)⟩
set_option maxRecDepth 65536 in
set_option maxHeartbeats 40000000 in
theorem comes_1 {Post : Tables → Env → Array Value → State → Outcome → State → Prop} (hpost : ∀ tb e args s v u, (limb_1_1.after args s (.returned v) u = true ∧ limb_1_2.after args s (.returned v) u = true ∧ True) → FrameEnd s (.returned v) u (Jvm.fieldLocs frame_1_writes args s ++ Jvm.arrayLocs frame_1_arrays args s ++ Jvm.staticLocs frame_1_statics s) 0 0 → Post tb e args s (.returned v) u) :
    ArmFor flags0 classFile x code maxLocals ret World_1 tables_1 room_1 Calls_1 rest_1 Pre_1 Post := by
  intro l hfl _ _ p e ha hc hk s m args below hf hA hF happ hP
  obtain ⟨hcalls, hrest, hpre⟩ := hP
  obtain ⟨-, -, -, hnamed, -, -, -, hat⟩ := (Spec.applies_iff hf).mp happ
  obtain ⟨hg, hn⟩ := and_e (Cond.before_iff.mp (show (Jvm.Cond.and given_1 narrow_1).before args s = true from hpre))
  obtain ⟨h1, g0⟩ := and_e hg
  obtain ⟨b0, g1⟩ := and_e g0
  obtain ⟨w0, w1, rfl⟩ : ∃ w0 w1 : Value, args = #[w0, w1] := by
    have hs : args.size = 2 := by simpa [Cond.value, given_1] using h1
    obtain ⟨L⟩ := args
    match L, hs with
    | [w0, w1], _ => exact ⟨w0, w1, rfl⟩
  have hw := fun d (hd : d ∈ tables_1) => atoms_spec (ws := Jvm.Cond.code x code maxLocals ret :: tables_1) hat d (List.mem_cons_of_mem _ hd)
  have hfit : Fit s := fun {y c} hc i hi => by
    obtain ⟨ha, rfl⟩ := Array.getElem?_eq_some_iff.mp hc
    have q := List.all_eq_true.mp ((Array.all_eq_true_iff_forall_mem.mp hF) _ (Array.getElem_mem ha)) i (List.mem_range.mpr hi)
    simpa [Array.getElem?_eq_getElem hi] using q
  obtain ⟨i0, ev0⟩ := is_v b0
  obtain rfl : w0 = (.int i0) := Option.some.inj ev0
  obtain ⟨i1, ev1⟩ := is_v g1
  obtain rfl : w1 = (.int i1) := Option.some.inj ev1
  obtain ⟨n1, m1⟩ := and_e hn
  obtain ⟨n2, m2⟩ := and_e m1
  obtain ⟨n3, m3⟩ := and_e m2
  obtain ⟨n4, m4⟩ := and_e m3
  obtain ⟨n5, m5⟩ := and_e m4
  obtain ⟨n6, m6⟩ := and_e m5
  obtain ⟨n7, n8⟩ := and_e m6
  obtain ⟨wD, evD⟩ := exa_v n1
  obtain ⟨wV, evV⟩ := exa_v n2
  obtain ⟨wT, evT⟩ := exa_v n5
  obtain ⟨wS, evS⟩ := exa_v n7
  have FV := own_fld evV n3
  have FD := own_fld evD n4
  have FT := own_fld evT n6
  have FS := own_fld evS n8
  obtain ⟨n, o, h1, h2, h3, _, L, rfl, ⟨rfl, N, _⟩, hq⟩ := rm0 l s _ hw tables_1 i0 i1 wD wS wT wV s.heap s.heap.size (Nat.le_refl _) (Sta.start evD (Or.inr ⟨(hw _ (List.mem_of_getElem? (i := 5) rfl)), (hw _ (List.mem_of_getElem? (i := 6) rfl))⟩)) (Sta.start evS (Or.inr ⟨(hw _ (List.mem_of_getElem? (i := 5) rfl)), (hw _ (List.mem_of_getElem? (i := 19) rfl))⟩)) (Sta.start evT (Or.inr ⟨(hw _ (List.mem_of_getElem? (i := 5) rfl)), (hw _ (List.mem_of_getElem? (i := 16) rfl))⟩)) (Sta.start evV (Or.inr ⟨(hw _ (List.mem_of_getElem? (i := 5) rfl)), (hw _ (List.mem_of_getElem? (i := 8) rfl))⟩)) (Exa.start evD n1) (Exa.start evS n7) (Exa.start evT n5) (Exa.start evV n2) (Fld.ne FD FS (by decide)) (Fld.ne FD FT (by decide)) (Fld.ne FD FV (by decide)) (Fld.ne FS FD (by decide)) (Fld.ne FS FT (by decide)) (Fld.ne FS FV (by decide)) (Fld.ne FT FD (by decide)) (Fld.ne FT FS (by decide)) (Fld.ne FT FV (by decide)) (Fld.ne FV FD (by decide)) (Fld.ne FV FS (by decide)) (Fld.ne FV FT (by decide)) p e ha hc hk s m _ below hf ((Spec.applies_iff_loose hf).mp happ).1 ⟨rfl, State.Warmed39.refl s, rfl⟩ trivial
  refine ⟨n, _, h1, h2, h3, hpost _ _ _ _ _ _ ⟨Cond.after_iff.mpr rfl, Cond.after_iff.mpr (eq_i res_at (Term.int_eval (1)) rfl), trivial⟩ ⟨hq.1, hq.2.1, (hq.2.2.sift fun y hy => Or.inr (N y hy)).mono (by decide) (by decide)⟩⟩
theorem main_1_1 : Claimed_1_1 := comes_1 fun _ _ _ _ _ _ h hF => ⟨h.1, hF⟩
theorem main_1_2 : Claimed_1_2 := comes_1 fun _ _ _ _ _ _ h hF => ⟨h.2.1, hF⟩
end Jvm.Pilot.@@N@@
namespace Jvm.Pilot.@@N@@
open Jvm Jvm.ClassFile Sem Op Lib Jvm.Free Jvm.Stand Jvm.Pilot.@@N@@.Jvm.D
/-! MADE BY PROGRAM (witnessworld.py) out of the Statement's table words and the real class files: 10 classes; the members and pool entries that the words name. The judged class is class 1, her method 1. -/
namespace start1
open Jvm.ClassFile
def u (s : String) : CpInfo := .utf8 (stringToUtf16 s)
/-- a pool by its gaps: so many unusable entries, then the entry; so many at the end -/
def gap : Nat → List CpInfo → List CpInfo
  | 0, r => r
  | n + 1, r => .unusable :: gap n r
def poolList (es : List (Nat × CpInfo)) (last : Nat) : List CpInfo := es.foldr (fun e r => gap e.1 (e.2 :: r)) (gap last [])
def pool (es : List (Nat × CpInfo)) (last : Nat) : Array CpInfo := ⟨poolList es last⟩
def fileOf (pool : Array CpInfo) (this : Nat) (attrs : Array Attribute := #[]) (ms : Array MethodInfo := #[]) (fl : Nat := 33) (sup : Nat := 0) (ifs : Array Nat := #[]) (fds : Array FieldInfo := #[]) : ClassFile where
  minorVersion := 0
  majorVersion := 65
  constantPool := pool
  accessFlags := fl
  thisClass := this
  superClass := sup
  interfaces := ifs
  fields := fds
  methods := ms
  attributes := attrs
def plain (name : String) (sup : Option ClassId) : Class where
  name := name
  kind := .ordinary
  loader := none
  accessFlags := 33
  super := sup
  interfaces := #[]
  cf := none
  fields := #[]
  methods := #[]
  instanceTypes := #[]
  staticTypes := #[]
  resolved := #[]
  callSites := []
  init := .initialized
  statics := none
  mirror := none

def pool0 : Array CpInfo := pool [(5, u "<init>"), (0, u "()V"), (1, .class_ 10), (1, u "java/lang/Object")] 113

def k0m0 : Method := { name := "<init>", desc := "()V", sig := { parameters := [], returnType := none }, accessFlags := 1, code := none }
/-- java/lang/Object -/
def k0 : Class := { plain "java/lang/Object" none with
  accessFlags := 33
  interfaces := #[]
  cf := some (fileOf pool0 8 #[] #[{ accessFlags := 1, nameIndex := 5, descriptorIndex := 6, attributes := #[] }] 33 0 #[] #[])
  fields := #[]
  methods := #[k0m0]
  instanceTypes := #[]
  staticTypes := #[]
  resolved := Array.replicate 124 none
  statics := none }

def pool1 : Array CpInfo := pool [(2, .class_ 4), (1, u "java/lang/Object"), (0, u "<init>"), (0, u "()V"), (0, .methodref 8 9), (0, .class_ 10), (0, .nameAndType 11 12), (0, u "com/example/meerkat/meerkat/ObjectKindNamesPinLaw"), (0, u "kind"), (0, u "(I)Lcom/example/meerkat/meerkat/ObjectKind;"), (0, .integer 35873), (0, .methodref 15 16), (0, .class_ 17), (0, .nameAndType 18 19), (0, u "com/example/meerkat/meerkat/ObjectKind"), (0, u "names"), (0, u "(Lcom/example/meerkat/meerkat/ObjectKind;)Z"), (0, .fieldref 15 21), (0, .nameAndType 22 23), (0, u "DATABASE"), (0, u "Lcom/example/meerkat/meerkat/ObjectKind;"), (0, .fieldref 15 25), (0, .nameAndType 26 23), (0, u "SCHEMA"), (0, .fieldref 15 28), (0, .nameAndType 29 23), (0, u "TABLE"), (0, .fieldref 15 31), (0, .nameAndType 32 23), (0, u "VIEW"), (2, u "law"), (0, u "(II)Z")] 3

def k1m0 : Method := { name := "<init>", desc := "()V", sig := { parameters := [], returnType := none }, accessFlags := 2, code := none }
def k1c1 : Code := { maxStack := 3, maxLocals := 8, code := code, exceptionTable := #[], attributes := #[] }
def k1m1 : Method := { name := "law", desc := "(II)Z", sig := { parameters := [.int, .int], returnType := some .boolean }, accessFlags := 9, code := some k1c1 }
def k1c2 : Code := { maxStack := 2, maxLocals := 1, code := method_3_code, exceptionTable := #[], attributes := #[] }
def k1m2 : Method := { name := "kind", desc := "(I)Lcom/example/meerkat/meerkat/ObjectKind;", sig := { parameters := [.int], returnType := some (.object "com/example/meerkat/meerkat/ObjectKind") }, accessFlags := 10, code := some k1c2 }
/-- com/example/meerkat/meerkat/ObjectKindNamesPinLaw -/
def k1 : Class := { plain "com/example/meerkat/meerkat/ObjectKindNamesPinLaw" (some 0) with
  accessFlags := 49
  interfaces := #[]
  cf := some (fileOf pool1 8 #[] #[{ accessFlags := 2, nameIndex := 5, descriptorIndex := 6, attributes := #[] }, { accessFlags := 9, nameIndex := 35, descriptorIndex := 36, attributes := #[] }, { accessFlags := 10, nameIndex := 11, descriptorIndex := 12, attributes := #[] }] 49 2 #[] #[])
  fields := #[]
  methods := #[k1m0, k1m1, k1m2]
  instanceTypes := #[]
  staticTypes := #[]
  resolved := Array.replicate 40 none
  statics := none }

def pool2 : Array CpInfo := pool [(1, .class_ 2), (0, u "java/lang/constant/Constable"), (0, .class_ 4), (0, u "java/lang/Object")] 6

/-- java/lang/constant/Constable -/
def k2 : Class := { plain "java/lang/constant/Constable" (some 0) with
  accessFlags := 1537
  interfaces := #[]
  cf := some (fileOf pool2 1 #[] #[] 1537 3 #[] #[])
  fields := #[]
  methods := #[]
  instanceTypes := #[]
  staticTypes := #[]
  resolved := Array.replicate 11 none
  statics := none }

def pool3 : Array CpInfo := pool [(1, .class_ 2), (0, u "java/lang/Comparable"), (0, .class_ 4), (0, u "java/lang/Object")] 7

/-- java/lang/Comparable -/
def k3 : Class := { plain "java/lang/Comparable" (some 0) with
  accessFlags := 1537
  interfaces := #[]
  cf := some (fileOf pool3 1 #[] #[] 1537 3 #[] #[])
  fields := #[]
  methods := #[]
  instanceTypes := #[]
  staticTypes := #[]
  resolved := Array.replicate 12 none
  statics := none }

def pool4 : Array CpInfo := pool [(1, .class_ 2), (0, u "java/io/Serializable"), (0, .class_ 4), (0, u "java/lang/Object")] 2

/-- java/io/Serializable -/
def k4 : Class := { plain "java/io/Serializable" (some 0) with
  accessFlags := 1537
  interfaces := #[]
  cf := some (fileOf pool4 1 #[] #[] 1537 3 #[] #[])
  fields := #[]
  methods := #[]
  instanceTypes := #[]
  staticTypes := #[]
  resolved := Array.replicate 7 none
  statics := none }

def pool5 : Array CpInfo := pool [(2, .class_ 4), (1, u "java/lang/Enum"), (0, u "name"), (0, u "Ljava/lang/String;"), (2, u "ordinal"), (0, u "I"), (1, .class_ 14), (1, u "java/lang/Object"), (4, u "hash"), (86, .class_ 108), (1, u "java/lang/Enum$EnumDesc"), (2, .class_ 112), (0, u "java/lang/constant/Constable"), (0, .class_ 114), (0, u "java/lang/Comparable"), (0, .class_ 116), (0, u "java/io/Serializable")] 87

/-- java/lang/Enum -/
def k5 : Class := { plain "java/lang/Enum" (some 0) with
  accessFlags := 1057
  interfaces := #[2, 3, 4]
  cf := some (fileOf pool5 2 #[.nestMembers #[106]] #[] 1057 12 #[111, 113, 115] #[{ accessFlags := 18, nameIndex := 5, descriptorIndex := 6, attributes := #[] }, { accessFlags := 18, nameIndex := 9, descriptorIndex := 10, attributes := #[] }, { accessFlags := 2, nameIndex := 19, descriptorIndex := 10, attributes := #[] }])
  fields := #[{ name := "name", type := (.object "java/lang/String"), accessFlags := 18, slot := 0, constantValue := 0 }, { name := "ordinal", type := .int, accessFlags := 18, slot := 1, constantValue := 0 }, { name := "hash", type := .int, accessFlags := 2, slot := 2, constantValue := 0 }]
  methods := #[]
  instanceTypes := #[(.object "java/lang/String"), .int, .int]
  staticTypes := #[]
  resolved := Array.replicate 204 none
  statics := none }

def pool6 : Array CpInfo := pool [(1, .class_ 2), (0, u "com/example/meerkat/meerkat/ObjectKind"), (2, u "DATABASE"), (0, u "Lcom/example/meerkat/meerkat/ObjectKind;"), (2, u "SCHEMA"), (0, .fieldref 1 11), (0, .nameAndType 12 6), (0, u "TABLE"), (0, .fieldref 1 14), (0, .nameAndType 15 6), (0, u "VIEW"), (2, u "$VALUES"), (0, u "[Lcom/example/meerkat/meerkat/ObjectKind;"), (6, .class_ 28), (1, u "java/lang/Enum"), (8, u "container"), (2, u "depth"), (0, u "I"), (8, u "privileges"), (0, u "Ljava/util/Set;"), (83, u "names"), (0, u "(Lcom/example/meerkat/meerkat/ObjectKind;)Z")] 7

def k6c0 : Code := { maxStack := 2, maxLocals := 2, code := prog_9_method_7_code, exceptionTable := #[], attributes := #[] }
def k6m0 : Method := { name := "names", desc := "(Lcom/example/meerkat/meerkat/ObjectKind;)Z", sig := { parameters := [(.object "com/example/meerkat/meerkat/ObjectKind")], returnType := some .boolean }, accessFlags := 0, code := some k6c0 }
/-- com/example/meerkat/meerkat/ObjectKind -/
def k6 : Class := { plain "com/example/meerkat/meerkat/ObjectKind" (some 5) with
  accessFlags := 16432
  interfaces := #[]
  cf := some (fileOf pool6 1 #[] #[{ accessFlags := 0, nameIndex := 135, descriptorIndex := 136, attributes := #[] }] 16432 26 #[] #[{ accessFlags := 16409, nameIndex := 5, descriptorIndex := 6, attributes := #[] }, { accessFlags := 16409, nameIndex := 9, descriptorIndex := 6, attributes := #[] }, { accessFlags := 16409, nameIndex := 12, descriptorIndex := 6, attributes := #[] }, { accessFlags := 16409, nameIndex := 15, descriptorIndex := 6, attributes := #[] }, { accessFlags := 18, nameIndex := 37, descriptorIndex := 6, attributes := #[] }, { accessFlags := 18, nameIndex := 40, descriptorIndex := 41, attributes := #[] }, { accessFlags := 18, nameIndex := 50, descriptorIndex := 51, attributes := #[] }, { accessFlags := 4122, nameIndex := 18, descriptorIndex := 19, attributes := #[] }])
  fields := #[{ name := "DATABASE", type := (.object "com/example/meerkat/meerkat/ObjectKind"), accessFlags := 16409, slot := 0, constantValue := 0 }, { name := "SCHEMA", type := (.object "com/example/meerkat/meerkat/ObjectKind"), accessFlags := 16409, slot := 1, constantValue := 0 }, { name := "TABLE", type := (.object "com/example/meerkat/meerkat/ObjectKind"), accessFlags := 16409, slot := 2, constantValue := 0 }, { name := "VIEW", type := (.object "com/example/meerkat/meerkat/ObjectKind"), accessFlags := 16409, slot := 3, constantValue := 0 }, { name := "container", type := (.object "com/example/meerkat/meerkat/ObjectKind"), accessFlags := 18, slot := 3, constantValue := 0 }, { name := "depth", type := .int, accessFlags := 18, slot := 4, constantValue := 0 }, { name := "privileges", type := (.object "java/util/Set"), accessFlags := 18, slot := 5, constantValue := 0 }, { name := "$VALUES", type := (.array (.object "com/example/meerkat/meerkat/ObjectKind")), accessFlags := 4122, slot := 4, constantValue := 0 }]
  methods := #[k6m0]
  instanceTypes := #[(.object "java/lang/String"), .int, .int, (.object "com/example/meerkat/meerkat/ObjectKind"), .int, (.object "java/util/Set")]
  staticTypes := #[(.object "com/example/meerkat/meerkat/ObjectKind"), (.object "com/example/meerkat/meerkat/ObjectKind"), (.object "com/example/meerkat/meerkat/ObjectKind"), (.object "com/example/meerkat/meerkat/ObjectKind"), (.array (.object "com/example/meerkat/meerkat/ObjectKind"))]
  resolved := Array.replicate 144 none
  statics := some 0 }

def pool7 : Array CpInfo := pool [(1, u "java/lang/Cloneable"), (0, .class_ 1), (0, u "java/lang/Object"), (0, .class_ 3)] 3

/-- java/lang/Cloneable -/
def k7 : Class := { plain "java/lang/Cloneable" (some 0) with
  accessFlags := 1537
  interfaces := #[]
  cf := some (fileOf pool7 2 #[] #[] 1537 4 #[] #[])
  fields := #[]
  methods := #[]
  instanceTypes := #[]
  staticTypes := #[]
  resolved := Array.replicate 8 none
  statics := none }

/-- the primitive byte -/
def k8 : Class := { plain "byte" none with kind := .primitive 'B', accessFlags := 0x411 }
/-- [B -/
def k9 : Class := { plain "[B" (some 0) with kind := .array 8 .byte, interfaces := #[7, 4], accessFlags := 1041 }

def heap : Heap := #[{ cls := 6, slots := #[.ref 1, .ref 2, .ref 3, .ref 4, .null], vm := .statics 6 },
  { cls := 6, slots := #[.null, .int 0, .int 0, .null, .int 0, .null], vm := .none },
  { cls := 6, slots := #[.null, .int 1, .int 0, .null, .int 0, .null], vm := .none },
  { cls := 6, slots := #[.null, .int 2, .int 0, .null, .int 0, .null], vm := .none },
  { cls := 6, slots := #[.null, .int 3, .int 0, .null, .int 0, .null], vm := .none }]
def classes : Array Class := #[k0, k1, k2, k3, k4, k5, k6, k7, k8, k9]
def interned : List (Array UInt16 × Addr) := []
def slotsUsed : Nat := 29
def theMethod : MethodId := ⟨1, 1⟩
def args0 : Array Value := #[.int 1, .int 2]
def aboutOver (below : List Frame) : State where
  vm := { classes := classes, interned := interned.toArray }
  heap := heap
  slotsUsed := slotsUsed
  threads := #[{ frames := .invoking theMethod args0 :: below }]
def below0 : List Frame := [.native { method := ⟨0, 0⟩, args := #[] }]
def about1 : State := aboutOver below0
def p0 : Program := .bare "" "" ""
def e0 : Env := launch0.env 0 0 0
theorem w_frames : about1.frames = Frame.invoking theMethod args0 :: below0 := rfl
set_option maxRecDepth 65536 in
theorem w_args : argsFit about1.vm theMethod args0 = true := by decide +kernel
set_option maxRecDepth 65536 in
theorem w_heap : heapFits about1 = true := by decide +kernel
set_option maxRecDepth 65536 in
theorem w_runnable : about1.curStatus? = some .runnable := by decide +kernel
set_option maxRecDepth 65536 in
theorem w_alone : about1.alone = true := by decide +kernel
set_option maxRecDepth 65536 in
theorem w_named : about1.methodNamed? x = some theMethod := by decide +kernel
set_option maxRecDepth 65536 in
theorem w_hears : about1.hears theMethod below0 = true := by decide +kernel
set_option maxRecDepth 65536 in
theorem w_ripe : about1.ripe theMethod args0 below0 = true := by decide +kernel
theorem w_running : about1.status = .running := rfl
set_option maxRecDepth 65536 in
theorem w_room : about1.hasRoom e0.platform room_1 = true :=
  launch0.hasRoom_least _ room_1 (by decide +kernel) (by decide +kernel) (by decide +kernel) (by decide +kernel) (by decide +kernel) (by decide +kernel)
theorem allAtoms_all (ts : List Jvm.Cond) (a : Array Jvm.Value) (st : Jvm.State) : (allAtoms ts).before a st = ts.all (fun c => c.before a st) := by
  induction ts with
  | nil => rfl
  | cons c t ih =>
    show (Jvm.Cond.and c (allAtoms t)).before a st = _
    rw [Jvm.Cond.before_and, ih, List.all_cons]
def words1 : List Jvm.Cond := Jvm.Cond.code x code maxLocals ret :: tables_1
/-- a 'code' word, met by the world's own term for the bytes: nothing is compared byte by byte -/
theorem code_word {y : MethodName} {bytes : ByteArray} {mx : Nat} {rt : Option FieldType} {a : Array Value} {s : State} {m : MethodId} {meth : Method} {c : Code} (h1 : s.methodNamed? y = some m) (h2 : s.vm.method? m = some meth) (h3 : meth.code = some c) (h4 : c.code = bytes)
    (h5 : (c.maxLocals == mx && c.exceptionTable.isEmpty && decide (c.maxStack ≤ mostOperands) && decide (meth.sig.returnType = rt) && !meth.locks && decide (parseMethodDescriptor y.desc = some meth.sig)) = true) : (Jvm.Cond.code y bytes mx rt).before a s = true := by
  simp only [Bool.and_eq_true, beq_iff_eq, Bool.not_eq_true', decide_eq_true_eq] at h5
  obtain ⟨⟨⟨⟨⟨g1, g2⟩, g3⟩, g4⟩, g5⟩, g6⟩ := h5
  simp [Cond.before, Cond.holds, Cond.value, h1, h2, h3, h4, g1, g2, g3, g4, g5, g6]
def isCode : Jvm.Cond → Bool
  | .code _ _ _ _ => true
  | _ => false
theorem all_split {L : List Jvm.Cond} {P : Jvm.Cond → Bool} (h1 : L.all (fun c => isCode c || P c) = true) (h2 : ∀ c ∈ L.filter isCode, P c = true) : L.all P = true := by
  refine List.all_eq_true.mpr fun c hc => ?_
  have h := List.all_eq_true.mp h1 c hc
  rcases Bool.eq_false_or_eq_true (isCode c) with hi | hi
  · exact h2 c (List.mem_filter.mpr ⟨hc, hi⟩)
  · simpa [hi] using h
set_option maxRecDepth 65536 in
theorem w_c0 : (Jvm.Cond.code x code maxLocals ret).before args0 about1 = true := code_word (m := ⟨1, 1⟩) (meth := k1m1) (c := k1c1) (by decide +kernel) rfl rfl rfl (by decide +kernel)
set_option maxRecDepth 65536 in
theorem w_c1 : (Jvm.Cond.code ({ cls := "com/example/meerkat/meerkat/ObjectKindNamesPinLaw", name := "kind", desc := "(I)Lcom/example/meerkat/meerkat/ObjectKind;" } : Jvm.MethodName) method_3_code (1 : Nat) (Option.some (Jvm.ClassFile.FieldType.object "com/example/meerkat/meerkat/ObjectKind"))).before args0 about1 = true := code_word (m := ⟨1, 2⟩) (meth := k1m2) (c := k1c2) (by decide +kernel) rfl rfl rfl (by decide +kernel)
set_option maxRecDepth 65536 in
theorem w_c2 : (Jvm.Cond.code ({ cls := "com/example/meerkat/meerkat/ObjectKind", name := "names", desc := "(Lcom/example/meerkat/meerkat/ObjectKind;)Z" } : Jvm.MethodName) prog_9_method_7_code (2 : Nat) (Option.some Jvm.ClassFile.FieldType.boolean)).before args0 about1 = true := code_word (m := ⟨6, 0⟩) (meth := k6m0) (c := k6c0) (by decide +kernel) rfl rfl rfl (by decide +kernel)
def codes1 : List Jvm.Cond := [Jvm.Cond.code x code maxLocals ret, Jvm.Cond.code ({ cls := "com/example/meerkat/meerkat/ObjectKindNamesPinLaw", name := "kind", desc := "(I)Lcom/example/meerkat/meerkat/ObjectKind;" } : Jvm.MethodName) method_3_code (1 : Nat) (Option.some (Jvm.ClassFile.FieldType.object "com/example/meerkat/meerkat/ObjectKind")), Jvm.Cond.code ({ cls := "com/example/meerkat/meerkat/ObjectKind", name := "names", desc := "(Lcom/example/meerkat/meerkat/ObjectKind;)Z" } : Jvm.MethodName) prog_9_method_7_code (2 : Nat) (Option.some Jvm.ClassFile.FieldType.boolean)]
set_option maxRecDepth 65536 in
theorem codes_eq : words1.filter isCode = codes1 := rfl
theorem w_codes : ∀ c ∈ words1.filter isCode, c.before args0 about1 = true := by
  rw [codes_eq]
  intro c hc
  simp only [codes1, List.mem_cons, List.not_mem_nil, or_false] at hc
  rcases hc with rfl | rfl | rfl
  · exact w_c0
  · exact w_c1
  · exact w_c2
set_option maxRecDepth 65536 in
theorem w_t1 : words1.all (fun c => isCode c || c.before args0 about1) = true := by decide +kernel
theorem w_tables : (allAtoms (Jvm.Cond.code x code maxLocals ret :: tables_1)).before args0 about1 = true := by
  rw [allAtoms_all]
  show words1.all (fun c => c.before args0 about1) = true
  refine all_split ?_ w_codes
  rw [w_t1]
set_option maxRecDepth 65536 in
theorem w_case : (Jvm.Cond.and given_1 narrow_1).before args0 about1 = true := by decide +kernel
theorem w_applies : (headSpec (Jvm.Cond.code x code maxLocals ret :: tables_1) room_1).applies x e0.platform about1 = true :=
  (Spec.applies_iff w_frames).mpr ⟨w_running, w_runnable, w_alone, w_named, w_hears, w_ripe, w_room, w_tables⟩
theorem atStart : AtStart classFile x code maxLocals ret World_1 tables_1 room_1 Calls_1 rest_1 Pre_1 launch0 p0 e0 about1 theMethod args0 below0 :=
  ⟨lists_1, trivial, launch0.admits_env _ _ _, launch0.least_env, fairChoices_fair.cas, fairChoices_fair.clock, w_frames, w_args, w_heap, w_applies, trivial, trivial, w_case⟩
end start1
theorem witness_1 : WitnessClaimed_1 := ⟨start1.p0, start1.e0, start1.about1, start1.theMethod, start1.args0, start1.below0, start1.atStart⟩
end Jvm.Pilot.@@N@@
