import JvmDerived
import JvmDerived.Pilot.@@N@@Statement
import JvmDerived.Pilot.@@N@@Code
set_option linter.unusedVariables false
set_option linter.unusedSimpArgs false
namespace Jvm.RoadKit
open Sem ClassFile Op Lib Jvm.Stand Jvm.Free Jvm.LawKit
section New
variable {p : Program} {l : Launch} {e : Env} {R : Room} {s : State} {m : MethodId} {args : Array Value} {below : List Frame} {meth : Method} {c : Code} {T : State} {locs : List Loc} {cells slots : Nat}
theorem retI (X : Stand p l e R s m args below meth c T locs cells slots) (hx : p.tables.exec = Jvm.exec) {pc : Nat} {Ls : Array Slot} {z : Int32} {rest : List Value} (hret : meth.sig.returnType = some .int) (hd : decode c.code pc = .ok (.ireturn, 1)) {fs : List Frame}
    (hl : ∀ (f : JFrame) (acts : List Action), f.method = m → f.locked = none → f.entered = [] → (doReturn e (T.setTop f) acts (some (.int z))).1 = T.setFrames fs) : Steps p.tables e below (T.setTop (mkF m pc Ls (.int z :: rest))) (T.setFrames fs) := by
  have hm' : T.vm.method? m = some meth := X.method'
  have hn : narrow .int (.int z) = .int z := rfl
  show Steps p.tables e below (T.setTop { method := m, pc := pc, locals := Ls, stack := _ :: rest, locked := none }) _
  jvm_step X.here [X.here.top, hx, hd, hm', hret, hn]
  first | (intro acts; rw [hl _ acts rfl rfl rfl]) | rw [hl _ _ rfl rfl rfl]
  exact Steps.refl _
end New
end Jvm.RoadKit
namespace Jvm.Pilot.@@N@@
open Jvm Jvm.ClassFile Sem Op Lib Jvm.Free Jvm.Stand Jvm.LawKit Jvm.RoadKit Bundle Jvm.Pilot.@@N@@.Jvm.D
/-- from Y the run comes to an end of which Q tells -/
def own_G (FE : State → Outcome → State → List Loc → Nat → Nat → Prop) (p : Program) (e : Env) (below : List Frame) (s : State) (C S : Nat) (Q : Option Value → Heap → List Loc → Prop) (Y : State) : Prop :=
  ∃ s₂ o, Steps p.tables e below Y s₂ ∧ s₂.status = .running ∧ Ended s₂ below o ∧ ∃ v L, o = .returned v ∧ Q v s₂.heap L ∧ FE s o s₂ L C S
theorem own_go {FE : State → Outcome → State → List Loc → Nat → Nat → Prop} {p : Program} {e : Env} {below : List Frame} {s : State} {C S : Nat} {Q : Option Value → Heap → List Loc → Prop} {Y Y' : State} (k : own_G FE p e below s C S Q Y') (h : ∀ target, Steps p.tables e below Y' target → Steps p.tables e below Y target) : own_G FE p e below s C S Q Y :=
  let ⟨s₂, o, h1, r⟩ := k; ⟨s₂, o, h _ h1, r⟩
theorem d1_0 : decode prog_49_method_28_code 0 = .ok (.iload_n 0, 1) := by decide +kernel
theorem d1_1 : decode prog_49_method_28_code 1 = .ok (.ifCond .eq 9, 3) := by decide +kernel
theorem d1_4 : decode prog_49_method_28_code 4 = .ok (.ldc2_w 112, 3) := by decide +kernel
theorem d1_7 : decode prog_49_method_28_code 7 = .ok (.goto 6, 3) := by decide +kernel
theorem d1_10 : decode prog_49_method_28_code 10 = .ok (.ldc2_w 114, 3) := by decide +kernel
theorem d1_13 : decode prog_49_method_28_code 13 = .ok (.lreturn, 1) := by decide +kernel
theorem pn_1 : plainName "com/example/holding_queue/holdingqueue/engine/StoredMessage" = true := by first | (simp [plainName, overriddenIn]; done) | decide +kernel
theorem ef_1 (m : MethodId) (x0 : Int32) : entryFrame m #[(.int x0)] 1 = mkF m 0 #[iv x0] [] := by first | (simp [entryFrame, mkF, argsToLocals, Value.category]; done) | rfl
def f1 (p1 : Int32) : Int64 := (if p1 = (0 : Int32) then (300 : Int64) else (680 : Int64))
def Q_rm1 (Z : State) (p1 : Int32) (h0 : Heap) (n0 : Nat) : Option Value → Heap → List Loc → Prop := fun v h L => v = some (.long (f1 p1)) ∧ Fr n0 L ∧ h = h0
set_option maxRecDepth 65536 in
set_option maxHeartbeats 40000000 in
theorem rm1 (l : Launch) (Z : State) (a0 : Array Value) (hw : ∀ d ∈ tables_1, d.before a0 Z = true) (ws : List Jvm.Cond) (p1 : Int32) (h0 : Heap) (n0 : Nat) (Z0 : n0 ≤ h0.size) :
    MetFree l (⟨"com/example/holding_queue/holdingqueue/engine/StoredMessage", "stateHeapBytes", "(Z)J"⟩ : MethodName) (head1 (Jvm.Cond.code (⟨"com/example/holding_queue/holdingqueue/engine/StoredMessage", "stateHeapBytes", "(Z)J"⟩ : MethodName) prog_49_method_28_code 1 (some .long) :: ws) ({ frames := 0, cells := 0, slots := 0, locals := 0 } : Room)) (fun a U => a = #[(.int p1)] ∧ Z.Warmed39 U.vm ∧ U.heap = h0) (fun _ _ _ _ _ => True) (fun _ U o U' => ∃ v L, o = .returned v ∧ (Q_rm1 Z p1 h0 n0) v U'.heap L ∧ FrameEnd U o U' L ({ frames := 0, cells := 0, slots := 0, locals := 0 } : Room).cells ({ frames := 0, cells := 0, slots := 0, locals := 0 } : Room).slots) := by
  refine MetFree.of_bodySF (plainFor_of_name pn_1) hisR ?_
  intro p e s m args below meth c s₁ Bd hml0 hP hK
  obtain ⟨rfl, hZ, hh⟩ := hP
  have hx := Bd.exec
  have hby := Bd.bytes
  have hml : c.maxLocals = 1 := hml0
  have hown : s.vm.findClass "com/example/holding_queue/holdingqueue/engine/StoredMessage" = some m.cls := findClass_of_methodNamed Bd.named
  have hnm := (name_of_methodNamed Bd.named Bd.method).1
  have X0 : Stand p l e ({ frames := 0, cells := 0, slots := 0, locals := 0 } : Room) s m #[(.int p1)] below meth c s₁ [] 0 0 := Stand.of_body Bd
  have e0 : s₁.heap = h0 := by rw [← hh, Bd.state]; rfl
  have N0 := Fr.nil n0
  show own_G FrameEnd p e below s ({ frames := 0, cells := 0, slots := 0, locals := 0 } : Room).cells ({ frames := 0, cells := 0, slots := 0, locals := 0 } : Room).slots (Q_rm1 Z p1 h0 n0) (s₁.setTop (entryFrame m #[(.int p1)] 1))
  refine own_go (Y' := s₁.setTop (mkF m 0 #[iv p1] [])) ?_ (fun t k => castTop (ef_1 m p1) k)
  refine own_go ?_ (fun target hr => XS.iloadN X0.here hx rfl (hb hby d1_0) rfl hr)
  show own_G _ p e below s _ _ _ (s₁.setTop (mkF m 1 #[iv p1] [(.int p1)]))
  by_cases hc1 : p1 = (0 : Int32)
  ·
    refine own_go ?_ (fun target hr => XS.ifYes X0.here hx rfl (pc0 := 1) (pc' := 10) rfl (hb hby d1_1) rfl ((if0 _ _).trans (teq hc1).1) (by decide) (by decide) (X0.ldc2J hx hown (mvT hZ (hw _ (List.mem_of_getElem? (i := 4) rfl))) rfl (hb hby d1_10) hr))
    show own_G _ p e below s _ _ _ (s₁.setTop (mkF m 13 #[iv p1] [(.long (300 : Int64))]))
    obtain ⟨fs, hr, hrun, hended, hW, hsame⟩ := X0.leave (v := some (.long (300 : Int64))) (fun h => by rw [Bd.returns] at h; cases h)
    exact ⟨_, _, X0.lreturnOut hx Bd.returns (hb hby d1_13) hr, hrun, hended, _, _, rfl, ⟨(by unfold f1; rw [if_pos hc1]), N0, e0⟩, ⟨_, rfl⟩, hW, hsame.mono (by decide) (by decide)⟩
  ·
    refine own_go ?_ (fun target hr => XS.ifNo X0.here hx rfl (hb hby d1_1) rfl ((if0 _ _).trans (feq hc1).1) (X0.ldc2J hx hown (mvT hZ (hw _ (List.mem_of_getElem? (i := 5) rfl))) rfl (hb hby d1_4) (XS.goto X0.here hx rfl (pc0 := 7) (pc' := 13) rfl (hb hby d1_7) (by decide) (by decide) hr)))
    show own_G _ p e below s _ _ _ (s₁.setTop (mkF m 13 #[iv p1] [(.long (680 : Int64))]))
    obtain ⟨fs, hr, hrun, hended, hW, hsame⟩ := X0.leave (v := some (.long (680 : Int64))) (fun h => by rw [Bd.returns] at h; cases h)
    exact ⟨_, _, X0.lreturnOut hx Bd.returns (hb hby d1_13) hr, hrun, hended, _, _, rfl, ⟨(by unfold f1; rw [if_neg hc1]), N0, e0⟩, ⟨_, rfl⟩, hW, hsame.mono (by decide) (by decide)⟩
theorem pn_0 : plainName "com/example/holding_queue/holdingqueue/engine/StoredMessageStateHeapBytesPinLaw" = true := by first | (simp [plainName, overriddenIn]; done) | decide +kernel
theorem pd__Z_J : parseMethodDescriptor "(Z)J" = some ⟨[.boolean], some .long⟩ := by decide +kernel
theorem ef_0 (m : MethodId) (x0 : Int32) : entryFrame m #[(.int x0)] maxLocals = mkF m 0 #[iv x0, .unset, .unset, .unset, .unset, .unset, .unset, .unset, .unset, .unset, .unset, .unset, .unset, .unset] [] := by first | (simp [entryFrame, mkF, argsToLocals, Value.category, maxLocals]; done) | rfl
def f0 (p1 : Int32) : Int32 := (if (p1 &&& (1 : Int32)) = (0 : Int32) then (if (f1 (0 : Int32)) = (300 : Int64) then (if (f1 (0 : Int32)) < (f1 (1 : Int32)) then (if (0 : Int64) < (f1 (0 : Int32)) then (1 : Int32) else (0 : Int32)) else (0 : Int32)) else (0 : Int32)) else (if (f1 (1 : Int32)) = (680 : Int64) then (if (f1 (0 : Int32)) < (f1 (1 : Int32)) then (if (0 : Int64) < (f1 (0 : Int32)) then (1 : Int32) else (0 : Int32)) else (0 : Int32)) else (0 : Int32)))
def Q_rm0 (Z : State) (p1 : Int32) (h0 : Heap) (n0 : Nat) : Option Value → Heap → List Loc → Prop := fun v h L => v = some (.int (f0 p1)) ∧ Fr n0 L ∧ h = h0
set_option maxRecDepth 65536 in
set_option maxHeartbeats 40000000 in
theorem rm0 (l : Launch) (Z : State) (a0 : Array Value) (hw : ∀ d ∈ tables_1, d.before a0 Z = true) (ws : List Jvm.Cond) (p1 : Int32) (h0 : Heap) (n0 : Nat) (Z0 : n0 ≤ h0.size) :
    MetFree l x (head1 (Jvm.Cond.code x code maxLocals ret :: ws) room_1) (fun a U => a = #[(.int p1)] ∧ Z.Warmed39 U.vm ∧ U.heap = h0) (fun _ _ _ _ _ => True) (fun _ U o U' => ∃ v L, o = .returned v ∧ (Q_rm0 Z p1 h0 n0) v U'.heap L ∧ FrameEnd U o U' L room_1.cells room_1.slots) := by
  refine MetFree.of_bodySF (plainFor_of_name pn_0) hisR ?_
  intro p e s m args below meth c s₁ Bd hml0 hP hK
  obtain ⟨rfl, hZ, hh⟩ := hP
  have hx := Bd.exec
  have hby := Bd.bytes
  have hml : c.maxLocals = 14 := hml0
  have hown : s.vm.findClass "com/example/holding_queue/holdingqueue/engine/StoredMessageStateHeapBytesPinLaw" = some m.cls := findClass_of_methodNamed Bd.named
  have hnm := (name_of_methodNamed Bd.named Bd.method).1
  have X0 : Stand p l e room_1 s m #[(.int p1)] below meth c s₁ [] 0 0 := Stand.of_body Bd
  have e0 : s₁.heap = h0 := by rw [← hh, Bd.state]; rfl
  have N0 := Fr.nil n0
  show own_G FrameEnd p e below s room_1.cells room_1.slots (Q_rm0 Z p1 h0 n0) (s₁.setTop (entryFrame m #[(.int p1)] maxLocals))
  refine own_go (Y' := s₁.setTop (mkF m 0 #[iv p1, .unset, .unset, .unset, .unset, .unset, .unset, .unset, .unset, .unset, .unset, .unset, .unset, .unset] [])) ?_ (fun t k => castTop (ef_0 m p1) k)
  refine own_go ?_ (fun target hr => XS.iloadN X0.here hx rfl (hb hby at_0) rfl (XS.iconst X0.here hx rfl (hb hby at_1) (XS.iand X0.here hx rfl (hb hby at_2) rfl hr)))
  show own_G _ p e below s _ _ _ (s₁.setTop (mkF m 3 #[iv p1, .unset, .unset, .unset, .unset, .unset, .unset, .unset, .unset, .unset, .unset, .unset, .unset, .unset] [(.int (p1 &&& (1 : Int32)))]))
  by_cases hc3 : (p1 &&& (1 : Int32)) = (0 : Int32)
  ·
    refine own_go ?_ (fun target hr => XS.ifYes X0.here hx rfl (pc0 := 3) (pc' := 10) rfl (hb hby at_3) rfl ((if0 _ _).trans (teq hc3).1) (by decide) (by decide) (XS.iconst X0.here hx rfl (hb hby at_10) (XS.istoreN X0.here hx rfl (hb hby at_11) rfl (l' := #[iv p1, iv (0 : Int32), .unset, .unset, .unset, .unset, .unset, .unset, .unset, .unset, .unset, .unset, .unset, .unset]) rfl (XS.iloadN X0.here hx rfl (hb hby at_12) rfl hr))))
    show own_G _ p e below s _ _ _ (s₁.setTop (mkF m 13 #[iv p1, iv (0 : Int32), .unset, .unset, .unset, .unset, .unset, .unset, .unset, .unset, .unset, .unset, .unset, .unset] [(.int (0 : Int32))]))
    obtain ⟨_, _, ⟨T1, L1, k1, n1⟩, -, X1, ⟨Lc1, hQ1, l1, y1, z1⟩, st1⟩ := Jvm.LawKit.callS X0 hx (y := (⟨"com/example/holding_queue/holdingqueue/engine/StoredMessage", "stateHeapBytes", "(Z)J"⟩ : MethodName)) hown (mvT hZ (hw _ (List.mem_of_getElem? (i := 0) rfl))) (mvT hZ (hw _ (List.mem_of_getElem? (i := 1) rfl))) (mvT hZ (hw _ (List.mem_of_getElem? (i := 2) rfl))) (mvT hZ (hw _ (List.mem_of_getElem? (i := 3) rfl))) (by decide) (backOf (W := 0) (rm1 l Z a0 hw [] (0 : Int32) h0 n0 Z0 ) hZ (hw _ (List.mem_of_getElem? (i := 3) rfl)) (hw _ (List.mem_of_getElem? (i := 2) rfl)) (by decide) (by decide)) (g := (mkF m 13 #[iv p1, iv (0 : Int32), .unset, .unset, .unset, .unset, .unset, .unset, .unset, .unset, .unset, .unset, .unset, .unset] [(.int (0 : Int32))])) rfl (by rw [hml]; rfl) (argsL := [(.int (0 : Int32))]) (rest := []) (lenOf pd__Z_J rfl) rfl (by show 2 * 0 + _ ≤ _; exact Nat.le_of_eq rfl) (hb hby at_13) (fun _ _ => ⟨rfl, e0, (by decide : 0 + 0 ≤ _), (by decide : 0 + 0 ≤ _)⟩)
    dsimp only [Pt.U, Pt.locs, Pt.cells, Pt.slots] at X1 l1 y1 z1 st1 hQ1
    subst l1 y1 z1
    obtain ⟨rfl, N1q, e1⟩ := hQ1
    have N1 := Fr.app N0 N1q
    refine own_go ?_ (fun target hr => st1 _ (XS.lstoreN X1.here hx rfl (hb hby at_16) rfl (l' := #[iv p1, iv (0 : Int32), .val (.long (f1 (0 : Int32))), .second, .unset, .unset, .unset, .unset, .unset, .unset, .unset, .unset, .unset, .unset]) rfl (XS.iloadN X1.here hx rfl (hb hby at_17) rfl (XS.ifNo X1.here hx rfl (hb hby at_18) rfl ((if0 _ _).trans (teq (by decide : (0 : Int32) = (0 : Int32))).2) (XS.iconst X1.here hx rfl (hb hby at_21) (XS.goto X1.here hx rfl (pc0 := 22) (pc' := 26) rfl (hb hby at_22) (by decide) (by decide) hr))))))
    show own_G _ p e below s _ _ _ (T1.setTop (mkF m 26 #[iv p1, iv (0 : Int32), .val (.long (f1 (0 : Int32))), .second, .unset, .unset, .unset, .unset, .unset, .unset, .unset, .unset, .unset, .unset] [(.int (1 : Int32))]))
    obtain ⟨_, _, ⟨T2, L2, k2, n2⟩, -, X2, ⟨Lc2, hQ2, l2, y2, z2⟩, st2⟩ := Jvm.LawKit.callS X1 hx (y := (⟨"com/example/holding_queue/holdingqueue/engine/StoredMessage", "stateHeapBytes", "(Z)J"⟩ : MethodName)) hown (mvT hZ (hw _ (List.mem_of_getElem? (i := 0) rfl))) (mvT hZ (hw _ (List.mem_of_getElem? (i := 1) rfl))) (mvT hZ (hw _ (List.mem_of_getElem? (i := 2) rfl))) (mvT hZ (hw _ (List.mem_of_getElem? (i := 3) rfl))) (by decide) (backOf (W := 0) (rm1 l Z a0 hw [] (1 : Int32) h0 n0 Z0 ) hZ (hw _ (List.mem_of_getElem? (i := 3) rfl)) (hw _ (List.mem_of_getElem? (i := 2) rfl)) (by decide) (by decide)) (g := (mkF m 26 #[iv p1, iv (0 : Int32), .val (.long (f1 (0 : Int32))), .second, .unset, .unset, .unset, .unset, .unset, .unset, .unset, .unset, .unset, .unset] [(.int (1 : Int32))])) rfl (by rw [hml]; rfl) (argsL := [(.int (1 : Int32))]) (rest := []) (lenOf pd__Z_J rfl) rfl (by show 2 * 0 + _ ≤ _; exact Nat.le_of_eq rfl) (hb hby at_26) (fun _ _ => ⟨rfl, e1, (by decide : 0 + 0 ≤ _), (by decide : 0 + 0 ≤ _)⟩)
    dsimp only [Pt.U, Pt.locs, Pt.cells, Pt.slots] at X2 l2 y2 z2 st2 hQ2
    subst l2 y2 z2
    obtain ⟨rfl, N2q, e2⟩ := hQ2
    have N2 := Fr.app N1 N2q
    refine own_go ?_ (fun target hr => st2 _ (XS.lstore X2.here hx rfl (hb hby at_29) rfl (l' := #[iv p1, iv (0 : Int32), .val (.long (f1 (0 : Int32))), .second, .val (.long (f1 (1 : Int32))), .second, .unset, .unset, .unset, .unset, .unset, .unset, .unset, .unset]) rfl (XS.iloadN X2.here hx rfl (hb hby at_31) rfl (XS.ifYes X2.here hx rfl (pc0 := 32) (pc' := 41) rfl (hb hby at_32) rfl ((if0 _ _).trans (teq (by decide : (0 : Int32) = (0 : Int32))).1) (by decide) (by decide) (X2.ldc2J hx hown (mvT hZ (hw _ (List.mem_of_getElem? (i := 6) rfl))) rfl (hb hby at_41) (XS.lstore X2.here hx rfl (hb hby at_44) rfl (l' := #[iv p1, iv (0 : Int32), .val (.long (f1 (0 : Int32))), .second, .val (.long (f1 (1 : Int32))), .second, .val (.long (300 : Int64)), .second, .unset, .unset, .unset, .unset, .unset, .unset]) rfl (XS.iloadN X2.here hx rfl (hb hby at_46) rfl (XS.ifYes X2.here hx rfl (pc0 := 47) (pc' := 56) rfl (hb hby at_47) rfl ((if0 _ _).trans (teq (by decide : (0 : Int32) = (0 : Int32))).1) (by decide) (by decide) hr))))))))
    show own_G _ p e below s _ _ _ (T2.setTop (mkF m 56 #[iv p1, iv (0 : Int32), .val (.long (f1 (0 : Int32))), .second, .val (.long (f1 (1 : Int32))), .second, .val (.long (300 : Int64)), .second, .unset, .unset, .unset, .unset, .unset, .unset] []))
    refine own_go ?_ (fun target hr => X2.ldc2J hx hown (mvT hZ (hw _ (List.mem_of_getElem? (i := 6) rfl))) rfl (hb hby at_56) (XS.lstore X2.here hx rfl (hb hby at_59) rfl (l' := #[iv p1, iv (0 : Int32), .val (.long (f1 (0 : Int32))), .second, .val (.long (f1 (1 : Int32))), .second, .val (.long (300 : Int64)), .second, .val (.long (300 : Int64)), .second, .unset, .unset, .unset, .unset]) rfl (XS.iloadN X2.here hx rfl (hb hby at_61) rfl (XS.ifYes X2.here hx rfl (pc0 := 62) (pc' := 69) rfl (hb hby at_62) rfl ((if0 _ _).trans (teq (by decide : (0 : Int32) = (0 : Int32))).1) (by decide) (by decide) (XS.lload X2.here hx rfl (hb hby at_69) rfl (XS.lstore X2.here hx rfl (hb hby at_71) rfl (l' := #[iv p1, iv (0 : Int32), .val (.long (f1 (0 : Int32))), .second, .val (.long (f1 (1 : Int32))), .second, .val (.long (300 : Int64)), .second, .val (.long (300 : Int64)), .second, .val (.long (f1 (1 : Int32))), .second, .unset, .unset]) rfl (XS.iloadN X2.here hx rfl (hb hby at_73) rfl (XS.ifYes X2.here hx rfl (pc0 := 74) (pc' := 82) rfl (hb hby at_74) rfl ((if0 _ _).trans (teq (by decide : (0 : Int32) = (0 : Int32))).1) (by decide) (by decide) hr))))))))
    show own_G _ p e below s _ _ _ (T2.setTop (mkF m 82 #[iv p1, iv (0 : Int32), .val (.long (f1 (0 : Int32))), .second, .val (.long (f1 (1 : Int32))), .second, .val (.long (300 : Int64)), .second, .val (.long (300 : Int64)), .second, .val (.long (f1 (1 : Int32))), .second, .unset, .unset] []))
    refine own_go ?_ (fun target hr => XS.lloadN X2.here hx rfl (hb hby at_82) rfl (XS.lstore X2.here hx rfl (hb hby at_83) rfl (l' := #[iv p1, iv (0 : Int32), .val (.long (f1 (0 : Int32))), .second, .val (.long (f1 (1 : Int32))), .second, .val (.long (300 : Int64)), .second, .val (.long (300 : Int64)), .second, .val (.long (f1 (1 : Int32))), .second, .val (.long (f1 (0 : Int32))), .second]) rfl (XS.lloadN X2.here hx rfl (hb hby at_85) rfl (XS.lload X2.here hx rfl (hb hby at_86) rfl (XS.lcmp X2.here hx rfl (hb hby at_88) rfl hr)))))
    show own_G _ p e below s _ _ _ (T2.setTop (mkF m 89 #[iv p1, iv (0 : Int32), .val (.long (f1 (0 : Int32))), .second, .val (.long (f1 (1 : Int32))), .second, .val (.long (300 : Int64)), .second, .val (.long (300 : Int64)), .second, .val (.long (f1 (1 : Int32))), .second, .val (.long (f1 (0 : Int32))), .second] [(.int (lcmpW (f1 (0 : Int32)) (300 : Int64)))]))
    by_cases hc89 : (f1 (0 : Int32)) = (300 : Int64)
    ·
      refine own_go ?_ (fun target hr => XS.ifNo X2.here hx rfl (hb hby at_89) rfl ((if0 _ _).trans (teq ((lw_eq (f1 (0 : Int32)) (300 : Int64)).mpr hc89)).2) (XS.lloadN X2.here hx rfl (hb hby at_92) rfl (XS.lload X2.here hx rfl (hb hby at_93) rfl (XS.lcmp X2.here hx rfl (hb hby at_95) rfl (XS.ifNo X2.here hx rfl (hb hby at_96) rfl ((if0 _ _).trans (teq ((lw_eq (f1 (0 : Int32)) (300 : Int64)).mpr hc89)).2) (XS.lload X2.here hx rfl (hb hby at_99) rfl (XS.lload X2.here hx rfl (hb hby at_101) rfl (XS.lcmp X2.here hx rfl (hb hby at_103) rfl hr))))))))
      show own_G _ p e below s _ _ _ (T2.setTop (mkF m 104 #[iv p1, iv (0 : Int32), .val (.long (f1 (0 : Int32))), .second, .val (.long (f1 (1 : Int32))), .second, .val (.long (300 : Int64)), .second, .val (.long (300 : Int64)), .second, .val (.long (f1 (1 : Int32))), .second, .val (.long (f1 (0 : Int32))), .second] [(.int (lcmpW (f1 (1 : Int32)) (f1 (0 : Int32))))]))
      by_cases hc104 : (f1 (0 : Int32)) < (f1 (1 : Int32))
      ·
        refine own_go ?_ (fun target hr => XS.ifNo X2.here hx rfl (hb hby at_104) rfl ((if0 _ _).trans (tlt ((lw_gt (f1 (1 : Int32)) (f1 (0 : Int32))).mpr hc104)).2.2.2) (XS.lload X2.here hx rfl (hb hby at_107) rfl (XS.lconst X2.here hx rfl (hb hby at_109) (XS.lcmp X2.here hx rfl (hb hby at_110) rfl hr))))
        show own_G _ p e below s _ _ _ (T2.setTop (mkF m 111 #[iv p1, iv (0 : Int32), .val (.long (f1 (0 : Int32))), .second, .val (.long (f1 (1 : Int32))), .second, .val (.long (300 : Int64)), .second, .val (.long (300 : Int64)), .second, .val (.long (f1 (1 : Int32))), .second, .val (.long (f1 (0 : Int32))), .second] [(.int (lcmpW (f1 (0 : Int32)) (0 : Int64)))]))
        by_cases hc111 : (0 : Int64) < (f1 (0 : Int32))
        ·
          refine own_go ?_ (fun target hr => XS.ifNo X2.here hx rfl (hb hby at_111) rfl ((if0 _ _).trans (tlt ((lw_gt (f1 (0 : Int32)) (0 : Int64)).mpr hc111)).2.2.2) (XS.iconst X2.here hx rfl (hb hby at_114) (XS.goto X2.here hx rfl (pc0 := 115) (pc' := 119) rfl (hb hby at_115) (by decide) (by decide) hr)))
          show own_G _ p e below s _ _ _ (T2.setTop (mkF m 119 #[iv p1, iv (0 : Int32), .val (.long (f1 (0 : Int32))), .second, .val (.long (f1 (1 : Int32))), .second, .val (.long (300 : Int64)), .second, .val (.long (300 : Int64)), .second, .val (.long (f1 (1 : Int32))), .second, .val (.long (f1 (0 : Int32))), .second] [(.int (1 : Int32))]))
          obtain ⟨fs, hr, hrun, hended, hW, hsame⟩ := X2.leave (v := some (.int (1 : Int32))) (fun h => by rw [Bd.returns] at h; cases h)
          exact ⟨_, _, retN X2 hx (t := .boolean) Bd.returns (by simp) (hb hby at_119) hr, hrun, hended, _, _, rfl, ⟨(by unfold f0; rw [if_pos hc3, if_pos hc89, if_pos hc104, if_pos hc111]), N2, e2⟩, ⟨_, rfl⟩, hW, hsame.mono (by decide) (by decide)⟩
        ·
          refine own_go ?_ (fun target hr => XS.ifYes X2.here hx rfl (pc0 := 111) (pc' := 118) rfl (hb hby at_111) rfl ((if0 _ _).trans (flt (fun q => hc111 ((lw_gt (f1 (0 : Int32)) (0 : Int64)).mp q))).2.2.2) (by decide) (by decide) (XS.iconst X2.here hx rfl (hb hby at_118) hr))
          show own_G _ p e below s _ _ _ (T2.setTop (mkF m 119 #[iv p1, iv (0 : Int32), .val (.long (f1 (0 : Int32))), .second, .val (.long (f1 (1 : Int32))), .second, .val (.long (300 : Int64)), .second, .val (.long (300 : Int64)), .second, .val (.long (f1 (1 : Int32))), .second, .val (.long (f1 (0 : Int32))), .second] [(.int (0 : Int32))]))
          obtain ⟨fs, hr, hrun, hended, hW, hsame⟩ := X2.leave (v := some (.int (0 : Int32))) (fun h => by rw [Bd.returns] at h; cases h)
          exact ⟨_, _, retN X2 hx (t := .boolean) Bd.returns (by simp) (hb hby at_119) hr, hrun, hended, _, _, rfl, ⟨(by unfold f0; rw [if_pos hc3, if_pos hc89, if_pos hc104, if_neg hc111]), N2, e2⟩, ⟨_, rfl⟩, hW, hsame.mono (by decide) (by decide)⟩
      ·
        refine own_go ?_ (fun target hr => XS.ifYes X2.here hx rfl (pc0 := 104) (pc' := 118) rfl (hb hby at_104) rfl ((if0 _ _).trans (flt (fun q => hc104 ((lw_gt (f1 (1 : Int32)) (f1 (0 : Int32))).mp q))).2.2.2) (by decide) (by decide) (XS.iconst X2.here hx rfl (hb hby at_118) hr))
        show own_G _ p e below s _ _ _ (T2.setTop (mkF m 119 #[iv p1, iv (0 : Int32), .val (.long (f1 (0 : Int32))), .second, .val (.long (f1 (1 : Int32))), .second, .val (.long (300 : Int64)), .second, .val (.long (300 : Int64)), .second, .val (.long (f1 (1 : Int32))), .second, .val (.long (f1 (0 : Int32))), .second] [(.int (0 : Int32))]))
        obtain ⟨fs, hr, hrun, hended, hW, hsame⟩ := X2.leave (v := some (.int (0 : Int32))) (fun h => by rw [Bd.returns] at h; cases h)
        exact ⟨_, _, retN X2 hx (t := .boolean) Bd.returns (by simp) (hb hby at_119) hr, hrun, hended, _, _, rfl, ⟨(by unfold f0; rw [if_pos hc3, if_pos hc89, if_neg hc104]), N2, e2⟩, ⟨_, rfl⟩, hW, hsame.mono (by decide) (by decide)⟩
    ·
      refine own_go ?_ (fun target hr => XS.ifYes X2.here hx rfl (pc0 := 89) (pc' := 118) rfl (hb hby at_89) rfl ((if0 _ _).trans (feq (fun q => hc89 ((lw_eq (f1 (0 : Int32)) (300 : Int64)).mp q))).2) (by decide) (by decide) (XS.iconst X2.here hx rfl (hb hby at_118) hr))
      show own_G _ p e below s _ _ _ (T2.setTop (mkF m 119 #[iv p1, iv (0 : Int32), .val (.long (f1 (0 : Int32))), .second, .val (.long (f1 (1 : Int32))), .second, .val (.long (300 : Int64)), .second, .val (.long (300 : Int64)), .second, .val (.long (f1 (1 : Int32))), .second, .val (.long (f1 (0 : Int32))), .second] [(.int (0 : Int32))]))
      obtain ⟨fs, hr, hrun, hended, hW, hsame⟩ := X2.leave (v := some (.int (0 : Int32))) (fun h => by rw [Bd.returns] at h; cases h)
      exact ⟨_, _, retN X2 hx (t := .boolean) Bd.returns (by simp) (hb hby at_119) hr, hrun, hended, _, _, rfl, ⟨(by unfold f0; rw [if_pos hc3, if_neg hc89]), N2, e2⟩, ⟨_, rfl⟩, hW, hsame.mono (by decide) (by decide)⟩
  ·
    refine own_go ?_ (fun target hr => XS.ifNo X0.here hx rfl (hb hby at_3) rfl ((if0 _ _).trans (feq hc3).1) (XS.iconst X0.here hx rfl (hb hby at_6) (XS.goto X0.here hx rfl (pc0 := 7) (pc' := 11) rfl (hb hby at_7) (by decide) (by decide) (XS.istoreN X0.here hx rfl (hb hby at_11) rfl (l' := #[iv p1, iv (1 : Int32), .unset, .unset, .unset, .unset, .unset, .unset, .unset, .unset, .unset, .unset, .unset, .unset]) rfl (XS.iloadN X0.here hx rfl (hb hby at_12) rfl hr)))))
    show own_G _ p e below s _ _ _ (s₁.setTop (mkF m 13 #[iv p1, iv (1 : Int32), .unset, .unset, .unset, .unset, .unset, .unset, .unset, .unset, .unset, .unset, .unset, .unset] [(.int (1 : Int32))]))
    obtain ⟨_, _, ⟨T3, L3, k3, n3⟩, -, X3, ⟨Lc3, hQ3, l3, y3, z3⟩, st3⟩ := Jvm.LawKit.callS X0 hx (y := (⟨"com/example/holding_queue/holdingqueue/engine/StoredMessage", "stateHeapBytes", "(Z)J"⟩ : MethodName)) hown (mvT hZ (hw _ (List.mem_of_getElem? (i := 0) rfl))) (mvT hZ (hw _ (List.mem_of_getElem? (i := 1) rfl))) (mvT hZ (hw _ (List.mem_of_getElem? (i := 2) rfl))) (mvT hZ (hw _ (List.mem_of_getElem? (i := 3) rfl))) (by decide) (backOf (W := 0) (rm1 l Z a0 hw [] (1 : Int32) h0 n0 Z0 ) hZ (hw _ (List.mem_of_getElem? (i := 3) rfl)) (hw _ (List.mem_of_getElem? (i := 2) rfl)) (by decide) (by decide)) (g := (mkF m 13 #[iv p1, iv (1 : Int32), .unset, .unset, .unset, .unset, .unset, .unset, .unset, .unset, .unset, .unset, .unset, .unset] [(.int (1 : Int32))])) rfl (by rw [hml]; rfl) (argsL := [(.int (1 : Int32))]) (rest := []) (lenOf pd__Z_J rfl) rfl (by show 2 * 0 + _ ≤ _; exact Nat.le_of_eq rfl) (hb hby at_13) (fun _ _ => ⟨rfl, e0, (by decide : 0 + 0 ≤ _), (by decide : 0 + 0 ≤ _)⟩)
    dsimp only [Pt.U, Pt.locs, Pt.cells, Pt.slots] at X3 l3 y3 z3 st3 hQ3
    subst l3 y3 z3
    obtain ⟨rfl, N3q, e3⟩ := hQ3
    have N3 := Fr.app N0 N3q
    refine own_go ?_ (fun target hr => st3 _ (XS.lstoreN X3.here hx rfl (hb hby at_16) rfl (l' := #[iv p1, iv (1 : Int32), .val (.long (f1 (1 : Int32))), .second, .unset, .unset, .unset, .unset, .unset, .unset, .unset, .unset, .unset, .unset]) rfl (XS.iloadN X3.here hx rfl (hb hby at_17) rfl (XS.ifYes X3.here hx rfl (pc0 := 18) (pc' := 25) rfl (hb hby at_18) rfl ((if0 _ _).trans (feq (by decide : ¬ ((1 : Int32) = (0 : Int32)))).2) (by decide) (by decide) (XS.iconst X3.here hx rfl (hb hby at_25) hr)))))
    show own_G _ p e below s _ _ _ (T3.setTop (mkF m 26 #[iv p1, iv (1 : Int32), .val (.long (f1 (1 : Int32))), .second, .unset, .unset, .unset, .unset, .unset, .unset, .unset, .unset, .unset, .unset] [(.int (0 : Int32))]))
    obtain ⟨_, _, ⟨T4, L4, k4, n4⟩, -, X4, ⟨Lc4, hQ4, l4, y4, z4⟩, st4⟩ := Jvm.LawKit.callS X3 hx (y := (⟨"com/example/holding_queue/holdingqueue/engine/StoredMessage", "stateHeapBytes", "(Z)J"⟩ : MethodName)) hown (mvT hZ (hw _ (List.mem_of_getElem? (i := 0) rfl))) (mvT hZ (hw _ (List.mem_of_getElem? (i := 1) rfl))) (mvT hZ (hw _ (List.mem_of_getElem? (i := 2) rfl))) (mvT hZ (hw _ (List.mem_of_getElem? (i := 3) rfl))) (by decide) (backOf (W := 0) (rm1 l Z a0 hw [] (0 : Int32) h0 n0 Z0 ) hZ (hw _ (List.mem_of_getElem? (i := 3) rfl)) (hw _ (List.mem_of_getElem? (i := 2) rfl)) (by decide) (by decide)) (g := (mkF m 26 #[iv p1, iv (1 : Int32), .val (.long (f1 (1 : Int32))), .second, .unset, .unset, .unset, .unset, .unset, .unset, .unset, .unset, .unset, .unset] [(.int (0 : Int32))])) rfl (by rw [hml]; rfl) (argsL := [(.int (0 : Int32))]) (rest := []) (lenOf pd__Z_J rfl) rfl (by show 2 * 0 + _ ≤ _; exact Nat.le_of_eq rfl) (hb hby at_26) (fun _ _ => ⟨rfl, e3, (by decide : 0 + 0 ≤ _), (by decide : 0 + 0 ≤ _)⟩)
    dsimp only [Pt.U, Pt.locs, Pt.cells, Pt.slots] at X4 l4 y4 z4 st4 hQ4
    subst l4 y4 z4
    obtain ⟨rfl, N4q, e4⟩ := hQ4
    have N4 := Fr.app N3 N4q
    refine own_go ?_ (fun target hr => st4 _ (XS.lstore X4.here hx rfl (hb hby at_29) rfl (l' := #[iv p1, iv (1 : Int32), .val (.long (f1 (1 : Int32))), .second, .val (.long (f1 (0 : Int32))), .second, .unset, .unset, .unset, .unset, .unset, .unset, .unset, .unset]) rfl (XS.iloadN X4.here hx rfl (hb hby at_31) rfl (XS.ifNo X4.here hx rfl (hb hby at_32) rfl ((if0 _ _).trans (feq (by decide : ¬ ((1 : Int32) = (0 : Int32)))).1) (X4.ldc2J hx hown (mvT hZ (hw _ (List.mem_of_getElem? (i := 7) rfl))) rfl (hb hby at_35) (XS.goto X4.here hx rfl (pc0 := 38) (pc' := 44) rfl (hb hby at_38) (by decide) (by decide) (XS.lstore X4.here hx rfl (hb hby at_44) rfl (l' := #[iv p1, iv (1 : Int32), .val (.long (f1 (1 : Int32))), .second, .val (.long (f1 (0 : Int32))), .second, .val (.long (680 : Int64)), .second, .unset, .unset, .unset, .unset, .unset, .unset]) rfl (XS.iloadN X4.here hx rfl (hb hby at_46) rfl hr))))))))
    show own_G _ p e below s _ _ _ (T4.setTop (mkF m 47 #[iv p1, iv (1 : Int32), .val (.long (f1 (1 : Int32))), .second, .val (.long (f1 (0 : Int32))), .second, .val (.long (680 : Int64)), .second, .unset, .unset, .unset, .unset, .unset, .unset] [(.int (1 : Int32))]))
    refine own_go ?_ (fun target hr => XS.ifNo X4.here hx rfl (hb hby at_47) rfl ((if0 _ _).trans (feq (by decide : ¬ ((1 : Int32) = (0 : Int32)))).1) (X4.ldc2J hx hown (mvT hZ (hw _ (List.mem_of_getElem? (i := 7) rfl))) rfl (hb hby at_50) (XS.goto X4.here hx rfl (pc0 := 53) (pc' := 59) rfl (hb hby at_53) (by decide) (by decide) (XS.lstore X4.here hx rfl (hb hby at_59) rfl (l' := #[iv p1, iv (1 : Int32), .val (.long (f1 (1 : Int32))), .second, .val (.long (f1 (0 : Int32))), .second, .val (.long (680 : Int64)), .second, .val (.long (680 : Int64)), .second, .unset, .unset, .unset, .unset]) rfl (XS.iloadN X4.here hx rfl (hb hby at_61) rfl (XS.ifNo X4.here hx rfl (hb hby at_62) rfl ((if0 _ _).trans (feq (by decide : ¬ ((1 : Int32) = (0 : Int32)))).1) (XS.lloadN X4.here hx rfl (hb hby at_65) rfl (XS.goto X4.here hx rfl (pc0 := 66) (pc' := 71) rfl (hb hby at_66) (by decide) (by decide) hr))))))))
    show own_G _ p e below s _ _ _ (T4.setTop (mkF m 71 #[iv p1, iv (1 : Int32), .val (.long (f1 (1 : Int32))), .second, .val (.long (f1 (0 : Int32))), .second, .val (.long (680 : Int64)), .second, .val (.long (680 : Int64)), .second, .unset, .unset, .unset, .unset] [(.long (f1 (1 : Int32)))]))
    refine own_go ?_ (fun target hr => XS.lstore X4.here hx rfl (hb hby at_71) rfl (l' := #[iv p1, iv (1 : Int32), .val (.long (f1 (1 : Int32))), .second, .val (.long (f1 (0 : Int32))), .second, .val (.long (680 : Int64)), .second, .val (.long (680 : Int64)), .second, .val (.long (f1 (1 : Int32))), .second, .unset, .unset]) rfl (XS.iloadN X4.here hx rfl (hb hby at_73) rfl (XS.ifNo X4.here hx rfl (hb hby at_74) rfl ((if0 _ _).trans (feq (by decide : ¬ ((1 : Int32) = (0 : Int32)))).1) (XS.lload X4.here hx rfl (hb hby at_77) rfl (XS.goto X4.here hx rfl (pc0 := 79) (pc' := 83) rfl (hb hby at_79) (by decide) (by decide) (XS.lstore X4.here hx rfl (hb hby at_83) rfl (l' := #[iv p1, iv (1 : Int32), .val (.long (f1 (1 : Int32))), .second, .val (.long (f1 (0 : Int32))), .second, .val (.long (680 : Int64)), .second, .val (.long (680 : Int64)), .second, .val (.long (f1 (1 : Int32))), .second, .val (.long (f1 (0 : Int32))), .second]) rfl (XS.lloadN X4.here hx rfl (hb hby at_85) rfl (XS.lload X4.here hx rfl (hb hby at_86) rfl hr))))))))
    show own_G _ p e below s _ _ _ (T4.setTop (mkF m 88 #[iv p1, iv (1 : Int32), .val (.long (f1 (1 : Int32))), .second, .val (.long (f1 (0 : Int32))), .second, .val (.long (680 : Int64)), .second, .val (.long (680 : Int64)), .second, .val (.long (f1 (1 : Int32))), .second, .val (.long (f1 (0 : Int32))), .second] [(.long (680 : Int64)), (.long (f1 (1 : Int32)))]))
    refine own_go ?_ (fun target hr => XS.lcmp X4.here hx rfl (hb hby at_88) rfl hr)
    show own_G _ p e below s _ _ _ (T4.setTop (mkF m 89 #[iv p1, iv (1 : Int32), .val (.long (f1 (1 : Int32))), .second, .val (.long (f1 (0 : Int32))), .second, .val (.long (680 : Int64)), .second, .val (.long (680 : Int64)), .second, .val (.long (f1 (1 : Int32))), .second, .val (.long (f1 (0 : Int32))), .second] [(.int (lcmpW (f1 (1 : Int32)) (680 : Int64)))]))
    by_cases hc89 : (f1 (1 : Int32)) = (680 : Int64)
    ·
      refine own_go ?_ (fun target hr => XS.ifNo X4.here hx rfl (hb hby at_89) rfl ((if0 _ _).trans (teq ((lw_eq (f1 (1 : Int32)) (680 : Int64)).mpr hc89)).2) (XS.lloadN X4.here hx rfl (hb hby at_92) rfl (XS.lload X4.here hx rfl (hb hby at_93) rfl (XS.lcmp X4.here hx rfl (hb hby at_95) rfl (XS.ifNo X4.here hx rfl (hb hby at_96) rfl ((if0 _ _).trans (teq ((lw_eq (f1 (1 : Int32)) (680 : Int64)).mpr hc89)).2) (XS.lload X4.here hx rfl (hb hby at_99) rfl (XS.lload X4.here hx rfl (hb hby at_101) rfl (XS.lcmp X4.here hx rfl (hb hby at_103) rfl hr))))))))
      show own_G _ p e below s _ _ _ (T4.setTop (mkF m 104 #[iv p1, iv (1 : Int32), .val (.long (f1 (1 : Int32))), .second, .val (.long (f1 (0 : Int32))), .second, .val (.long (680 : Int64)), .second, .val (.long (680 : Int64)), .second, .val (.long (f1 (1 : Int32))), .second, .val (.long (f1 (0 : Int32))), .second] [(.int (lcmpW (f1 (1 : Int32)) (f1 (0 : Int32))))]))
      by_cases hc104 : (f1 (0 : Int32)) < (f1 (1 : Int32))
      ·
        refine own_go ?_ (fun target hr => XS.ifNo X4.here hx rfl (hb hby at_104) rfl ((if0 _ _).trans (tlt ((lw_gt (f1 (1 : Int32)) (f1 (0 : Int32))).mpr hc104)).2.2.2) (XS.lload X4.here hx rfl (hb hby at_107) rfl (XS.lconst X4.here hx rfl (hb hby at_109) (XS.lcmp X4.here hx rfl (hb hby at_110) rfl hr))))
        show own_G _ p e below s _ _ _ (T4.setTop (mkF m 111 #[iv p1, iv (1 : Int32), .val (.long (f1 (1 : Int32))), .second, .val (.long (f1 (0 : Int32))), .second, .val (.long (680 : Int64)), .second, .val (.long (680 : Int64)), .second, .val (.long (f1 (1 : Int32))), .second, .val (.long (f1 (0 : Int32))), .second] [(.int (lcmpW (f1 (0 : Int32)) (0 : Int64)))]))
        by_cases hc111 : (0 : Int64) < (f1 (0 : Int32))
        ·
          refine own_go ?_ (fun target hr => XS.ifNo X4.here hx rfl (hb hby at_111) rfl ((if0 _ _).trans (tlt ((lw_gt (f1 (0 : Int32)) (0 : Int64)).mpr hc111)).2.2.2) (XS.iconst X4.here hx rfl (hb hby at_114) (XS.goto X4.here hx rfl (pc0 := 115) (pc' := 119) rfl (hb hby at_115) (by decide) (by decide) hr)))
          show own_G _ p e below s _ _ _ (T4.setTop (mkF m 119 #[iv p1, iv (1 : Int32), .val (.long (f1 (1 : Int32))), .second, .val (.long (f1 (0 : Int32))), .second, .val (.long (680 : Int64)), .second, .val (.long (680 : Int64)), .second, .val (.long (f1 (1 : Int32))), .second, .val (.long (f1 (0 : Int32))), .second] [(.int (1 : Int32))]))
          obtain ⟨fs, hr, hrun, hended, hW, hsame⟩ := X4.leave (v := some (.int (1 : Int32))) (fun h => by rw [Bd.returns] at h; cases h)
          exact ⟨_, _, retN X4 hx (t := .boolean) Bd.returns (by simp) (hb hby at_119) hr, hrun, hended, _, _, rfl, ⟨(by unfold f0; rw [if_neg hc3, if_pos hc89, if_pos hc104, if_pos hc111]), N4, e4⟩, ⟨_, rfl⟩, hW, hsame.mono (by decide) (by decide)⟩
        ·
          refine own_go ?_ (fun target hr => XS.ifYes X4.here hx rfl (pc0 := 111) (pc' := 118) rfl (hb hby at_111) rfl ((if0 _ _).trans (flt (fun q => hc111 ((lw_gt (f1 (0 : Int32)) (0 : Int64)).mp q))).2.2.2) (by decide) (by decide) (XS.iconst X4.here hx rfl (hb hby at_118) hr))
          show own_G _ p e below s _ _ _ (T4.setTop (mkF m 119 #[iv p1, iv (1 : Int32), .val (.long (f1 (1 : Int32))), .second, .val (.long (f1 (0 : Int32))), .second, .val (.long (680 : Int64)), .second, .val (.long (680 : Int64)), .second, .val (.long (f1 (1 : Int32))), .second, .val (.long (f1 (0 : Int32))), .second] [(.int (0 : Int32))]))
          obtain ⟨fs, hr, hrun, hended, hW, hsame⟩ := X4.leave (v := some (.int (0 : Int32))) (fun h => by rw [Bd.returns] at h; cases h)
          exact ⟨_, _, retN X4 hx (t := .boolean) Bd.returns (by simp) (hb hby at_119) hr, hrun, hended, _, _, rfl, ⟨(by unfold f0; rw [if_neg hc3, if_pos hc89, if_pos hc104, if_neg hc111]), N4, e4⟩, ⟨_, rfl⟩, hW, hsame.mono (by decide) (by decide)⟩
      ·
        refine own_go ?_ (fun target hr => XS.ifYes X4.here hx rfl (pc0 := 104) (pc' := 118) rfl (hb hby at_104) rfl ((if0 _ _).trans (flt (fun q => hc104 ((lw_gt (f1 (1 : Int32)) (f1 (0 : Int32))).mp q))).2.2.2) (by decide) (by decide) (XS.iconst X4.here hx rfl (hb hby at_118) hr))
        show own_G _ p e below s _ _ _ (T4.setTop (mkF m 119 #[iv p1, iv (1 : Int32), .val (.long (f1 (1 : Int32))), .second, .val (.long (f1 (0 : Int32))), .second, .val (.long (680 : Int64)), .second, .val (.long (680 : Int64)), .second, .val (.long (f1 (1 : Int32))), .second, .val (.long (f1 (0 : Int32))), .second] [(.int (0 : Int32))]))
        obtain ⟨fs, hr, hrun, hended, hW, hsame⟩ := X4.leave (v := some (.int (0 : Int32))) (fun h => by rw [Bd.returns] at h; cases h)
        exact ⟨_, _, retN X4 hx (t := .boolean) Bd.returns (by simp) (hb hby at_119) hr, hrun, hended, _, _, rfl, ⟨(by unfold f0; rw [if_neg hc3, if_pos hc89, if_neg hc104]), N4, e4⟩, ⟨_, rfl⟩, hW, hsame.mono (by decide) (by decide)⟩
    ·
      refine own_go ?_ (fun target hr => XS.ifYes X4.here hx rfl (pc0 := 89) (pc' := 118) rfl (hb hby at_89) rfl ((if0 _ _).trans (feq (fun q => hc89 ((lw_eq (f1 (1 : Int32)) (680 : Int64)).mp q))).2) (by decide) (by decide) (XS.iconst X4.here hx rfl (hb hby at_118) hr))
      show own_G _ p e below s _ _ _ (T4.setTop (mkF m 119 #[iv p1, iv (1 : Int32), .val (.long (f1 (1 : Int32))), .second, .val (.long (f1 (0 : Int32))), .second, .val (.long (680 : Int64)), .second, .val (.long (680 : Int64)), .second, .val (.long (f1 (1 : Int32))), .second, .val (.long (f1 (0 : Int32))), .second] [(.int (0 : Int32))]))
      obtain ⟨fs, hr, hrun, hended, hW, hsame⟩ := X4.leave (v := some (.int (0 : Int32))) (fun h => by rw [Bd.returns] at h; cases h)
      exact ⟨_, _, retN X4 hx (t := .boolean) Bd.returns (by simp) (hb hby at_119) hr, hrun, hended, _, _, rfl, ⟨(by unfold f0; rw [if_neg hc3, if_neg hc89]), N4, e4⟩, ⟨_, rfl⟩, hW, hsame.mono (by decide) (by decide)⟩
theorem own_plain (x : Int32) : f0 x = 1 := by
  have e0 : f1 (0 : Int32) = 300 := by decide
  have e1 : f1 (1 : Int32) = 680 := by decide
  unfold f0
  rw [e0, e1]
  split <;> decide
set_option maxRecDepth 65536 in
set_option maxHeartbeats 40000000 in
theorem comes_1 {Post : Tables → Env → Array Value → State → Outcome → State → Prop} (hpost : ∀ tb e args s v u, (limb_1_1.after args s (.returned v) u = true ∧ limb_1_2.after args s (.returned v) u = true ∧ True) → FrameEnd s (.returned v) u (Jvm.fieldLocs frame_1_writes args s ++ Jvm.arrayLocs frame_1_arrays args s ++ Jvm.staticLocs frame_1_statics s) 0 0 → Post tb e args s (.returned v) u) :
    ArmFor flags0 classFile x code maxLocals ret World_1 tables_1 room_1 Calls_1 rest_1 Pre_1 Post := by
  intro l hfl _ _ p e ha hc hk s m args below hf hA hF happ hP
  obtain ⟨hcalls, hrest, hpre⟩ := hP
  obtain ⟨-, -, -, hnamed, -, -, -, hat⟩ := (Spec.applies_iff hf).mp happ
  obtain ⟨hg, hn⟩ := and_e (Cond.before_iff.mp (show (Jvm.Cond.and given_1 narrow_1).before args s = true from hpre))
  obtain ⟨h1, g0⟩ := and_e hg
  obtain ⟨w0, rfl⟩ : ∃ w0 : Value, args = #[w0] := by
    have hs : args.size = 1 := by simpa [Cond.value, given_1] using h1
    obtain ⟨L⟩ := args
    match L, hs with
    | [w0], _ => exact ⟨w0, rfl⟩
  have hw := fun d (hd : d ∈ tables_1) => atoms_spec (ws := Jvm.Cond.code x code maxLocals ret :: tables_1) hat d (List.mem_cons_of_mem _ hd)
  have hfit : Fit s := fun {y c} hc i hi => by
    obtain ⟨ha, rfl⟩ := Array.getElem?_eq_some_iff.mp hc
    have q := List.all_eq_true.mp ((Array.all_eq_true_iff_forall_mem.mp hF) _ (Array.getElem_mem ha)) i (List.mem_range.mpr hi)
    simpa [Array.getElem?_eq_getElem hi] using q
  obtain ⟨i0, ev0⟩ := is_v g0
  obtain rfl : w0 = (.int i0) := Option.some.inj ev0
  obtain ⟨n, o, h1, h2, h3, _, L, rfl, ⟨rfl, N, _⟩, hq⟩ := rm0 l s _ hw tables_1 i0 s.heap s.heap.size (Nat.le_refl _)  p e ha hc hk s m _ below hf ((Spec.applies_iff_loose hf).mp happ).1 ⟨rfl, State.Warmed39.refl s, rfl⟩ trivial
  refine ⟨n, _, h1, h2, h3, hpost _ _ _ _ _ _ ⟨Cond.after_iff.mpr rfl, Cond.after_iff.mpr (eq_i res_at (Term.int_eval (1)) (congrArg Value.int (own_plain i0))), trivial⟩ ⟨hq.1, hq.2.1, (hq.2.2.sift fun y hy => Or.inr (N y hy)).mono (by decide) (by decide)⟩⟩
theorem main_1_1 : Claimed_1_1 := comes_1 fun _ _ _ _ _ _ h hF => ⟨h.1, hF⟩
theorem main_1_2 : Claimed_1_2 := comes_1 fun _ _ _ _ _ _ h hF => ⟨h.2.1, hF⟩
end Jvm.Pilot.@@N@@
namespace Jvm.Pilot.@@N@@
open Jvm Jvm.ClassFile Sem Op Lib Jvm.Free Jvm.Stand Jvm.Pilot.@@N@@.Jvm.D
/-! MADE BY PROGRAM (witnessworld.py) out of the Statement's table words and the real class files: 7 classes; the members and pool entries that the words name. The judged class is class 1, her method 1. -/
namespace start1
open Jvm.ClassFile
def u (s : String) : CpInfo := .utf8 (stringToUtf16 s)
/-- a pool by its gaps: so many unusable entries, then the entry; so many at the end -/
def gap : Nat → List CpInfo → List CpInfo
  | 0, r => r
  | n + 1, r => .unusable :: gap n r
def poolList (es : List (Nat × CpInfo)) (last : Nat) : List CpInfo := es.foldr (fun e r => gap e.1 (e.2 :: r)) (gap last [])
def pool (es : List (Nat × CpInfo)) (last : Nat) : Array CpInfo := ⟨poolList es last⟩
def fileOf (pool : Array CpInfo) (this : Nat) (attrs : Array Attribute := #[]) (ms : Array MethodInfo := #[]) (fl : Nat := 33) (sup : Nat := 0) (ifs : Array Nat := #[]) (fds : Array FieldInfo := #[]) : ClassFile where
  minorVersion := 0
  majorVersion := 65
  constantPool := pool
  accessFlags := fl
  thisClass := this
  superClass := sup
  interfaces := ifs
  fields := fds
  methods := ms
  attributes := attrs
def plain (name : String) (sup : Option ClassId) : Class where
  name := name
  kind := .ordinary
  loader := none
  accessFlags := 33
  super := sup
  interfaces := #[]
  cf := none
  fields := #[]
  methods := #[]
  instanceTypes := #[]
  staticTypes := #[]
  resolved := #[]
  callSites := []
  init := .initialized
  statics := none
  mirror := none

def pool0 : Array CpInfo := pool [(5, u "<init>"), (0, u "()V"), (1, .class_ 10), (1, u "java/lang/Object")] 113

def k0m0 : Method := { name := "<init>", desc := "()V", sig := { parameters := [], returnType := none }, accessFlags := 1, code := none }
/-- java/lang/Object -/
def k0 : Class := { plain "java/lang/Object" none with
  accessFlags := 33
  interfaces := #[]
  cf := some (fileOf pool0 8 #[] #[{ accessFlags := 1, nameIndex := 5, descriptorIndex := 6, attributes := #[] }] 33 0 #[] #[])
  fields := #[]
  methods := #[k0m0]
  instanceTypes := #[]
  staticTypes := #[]
  resolved := Array.replicate 124 none
  statics := none }

def pool1 : Array CpInfo := pool [(2, .class_ 4), (1, u "java/lang/Object"), (0, u "<init>"), (0, u "()V"), (0, .methodref 8 9), (0, .class_ 10), (0, .nameAndType 11 12), (0, u "com/example/holding_queue/holdingqueue/engine/StoredMessage"), (0, u "stateHeapBytes"), (0, u "(Z)J"), (0, .long 680), (1, .long 300), (1, .class_ 18), (0, u "com/example/holding_queue/holdingqueue/engine/StoredMessageStateHeapBytesPinLaw"), (2, u "law"), (0, u "(I)Z")] 3

def k1m0 : Method := { name := "<init>", desc := "()V", sig := { parameters := [], returnType := none }, accessFlags := 1, code := none }
def k1c1 : Code := { maxStack := 4, maxLocals := 14, code := code, exceptionTable := #[], attributes := #[] }
def k1m1 : Method := { name := "law", desc := "(I)Z", sig := { parameters := [.int], returnType := some .boolean }, accessFlags := 9, code := some k1c1 }
/-- com/example/holding_queue/holdingqueue/engine/StoredMessageStateHeapBytesPinLaw -/
def k1 : Class := { plain "com/example/holding_queue/holdingqueue/engine/StoredMessageStateHeapBytesPinLaw" (some 0) with
  accessFlags := 49
  interfaces := #[]
  cf := some (fileOf pool1 17 #[] #[{ accessFlags := 1, nameIndex := 5, descriptorIndex := 6, attributes := #[] }, { accessFlags := 9, nameIndex := 21, descriptorIndex := 22, attributes := #[] }] 49 2 #[] #[])
  fields := #[]
  methods := #[k1m0, k1m1]
  instanceTypes := #[]
  staticTypes := #[]
  resolved := Array.replicate 26 none
  statics := none }

def pool2 : Array CpInfo := pool [(2, .class_ 4), (1, u "com/example/holding_queue/holdingqueue/engine/StoredMessage"), (3, .class_ 10), (1, u "java/lang/Object"), (3, u "sent"), (0, u "Lcom/example/holding_queue/holdingqueue/engine/SentMessage;"), (2, u "sequence"), (0, u "J"), (2, u "receiveCount"), (0, u "I"), (2, u "deliveries"), (2, u "firstReceivedAt"), (2, u "visibleAt"), (2, u "movedFrom"), (0, u "Ljava/lang/String;"), (2, u "sourceUnrecorded"), (0, u "Z"), (2, u "place"), (2, u "zeroTimeout"), (2, u "heldBack"), (57, u "(Z)J"), (4, .long 680), (1, .long 300), (1, u "HEAP_BYTES"), (1, u "FIFO_HEAP_BYTES"), (0, u "STATE_HEAP_BYTES"), (0, u "FIFO_STATE_HEAP_BYTES"), (32, u "stateHeapBytes")] 10

def k2c0 : Code := { maxStack := 2, maxLocals := 1, code := prog_49_method_28_code, exceptionTable := #[], attributes := #[] }
def k2m0 : Method := { name := "stateHeapBytes", desc := "(Z)J", sig := { parameters := [.boolean], returnType := some .long }, accessFlags := 8, code := some k2c0 }
/-- com/example/holding_queue/holdingqueue/engine/StoredMessage -/
def k2 : Class := { plain "com/example/holding_queue/holdingqueue/engine/StoredMessage" (some 0) with
  accessFlags := 48
  interfaces := #[]
  cf := some (fileOf pool2 2 #[] #[{ accessFlags := 8, nameIndex := 153, descriptorIndex := 107, attributes := #[] }] 48 8 #[] #[{ accessFlags := 24, nameIndex := 116, descriptorIndex := 19, attributes := #[] }, { accessFlags := 24, nameIndex := 118, descriptorIndex := 19, attributes := #[] }, { accessFlags := 24, nameIndex := 119, descriptorIndex := 19, attributes := #[] }, { accessFlags := 24, nameIndex := 120, descriptorIndex := 19, attributes := #[] }, { accessFlags := 18, nameIndex := 14, descriptorIndex := 15, attributes := #[] }, { accessFlags := 18, nameIndex := 18, descriptorIndex := 19, attributes := #[] }, { accessFlags := 18, nameIndex := 22, descriptorIndex := 23, attributes := #[] }, { accessFlags := 18, nameIndex := 26, descriptorIndex := 23, attributes := #[] }, { accessFlags := 18, nameIndex := 29, descriptorIndex := 19, attributes := #[] }, { accessFlags := 18, nameIndex := 32, descriptorIndex := 19, attributes := #[] }, { accessFlags := 18, nameIndex := 35, descriptorIndex := 36, attributes := #[] }, { accessFlags := 18, nameIndex := 39, descriptorIndex := 40, attributes := #[] }, { accessFlags := 18, nameIndex := 43, descriptorIndex := 19, attributes := #[] }, { accessFlags := 18, nameIndex := 46, descriptorIndex := 40, attributes := #[] }, { accessFlags := 18, nameIndex := 49, descriptorIndex := 40, attributes := #[] }])
  fields := #[{ name := "HEAP_BYTES", type := .long, accessFlags := 24, slot := 0, constantValue := 0 }, { name := "FIFO_HEAP_BYTES", type := .long, accessFlags := 24, slot := 1, constantValue := 0 }, { name := "STATE_HEAP_BYTES", type := .long, accessFlags := 24, slot := 2, constantValue := 0 }, { name := "FIFO_STATE_HEAP_BYTES", type := .long, accessFlags := 24, slot := 3, constantValue := 0 }, { name := "sent", type := (.object "com/example/holding_queue/holdingqueue/engine/SentMessage"), accessFlags := 18, slot := 0, constantValue := 0 }, { name := "sequence", type := .long, accessFlags := 18, slot := 1, constantValue := 0 }, { name := "receiveCount", type := .int, accessFlags := 18, slot := 2, constantValue := 0 }, { name := "deliveries", type := .int, accessFlags := 18, slot := 3, constantValue := 0 }, { name := "firstReceivedAt", type := .long, accessFlags := 18, slot := 4, constantValue := 0 }, { name := "visibleAt", type := .long, accessFlags := 18, slot := 5, constantValue := 0 }, { name := "movedFrom", type := (.object "java/lang/String"), accessFlags := 18, slot := 6, constantValue := 0 }, { name := "sourceUnrecorded", type := .boolean, accessFlags := 18, slot := 7, constantValue := 0 }, { name := "place", type := .long, accessFlags := 18, slot := 8, constantValue := 0 }, { name := "zeroTimeout", type := .boolean, accessFlags := 18, slot := 9, constantValue := 0 }, { name := "heldBack", type := .boolean, accessFlags := 18, slot := 10, constantValue := 0 }]
  methods := #[k2m0]
  instanceTypes := #[(.object "com/example/holding_queue/holdingqueue/engine/SentMessage"), .long, .int, .int, .long, .long, (.object "java/lang/String"), .boolean, .long, .boolean, .boolean]
  staticTypes := #[.long, .long, .long, .long]
  resolved := Array.replicate 164 none
  statics := none }

def pool3 : Array CpInfo := pool [(1, u "java/lang/Cloneable"), (0, .class_ 1), (0, u "java/lang/Object"), (0, .class_ 3)] 3

/-- java/lang/Cloneable -/
def k3 : Class := { plain "java/lang/Cloneable" (some 0) with
  accessFlags := 1537
  interfaces := #[]
  cf := some (fileOf pool3 2 #[] #[] 1537 4 #[] #[])
  fields := #[]
  methods := #[]
  instanceTypes := #[]
  staticTypes := #[]
  resolved := Array.replicate 8 none
  statics := none }

def pool4 : Array CpInfo := pool [(1, u "java/io/Serializable"), (0, .class_ 1), (0, u "java/lang/Object"), (0, .class_ 3)] 3

/-- java/io/Serializable -/
def k4 : Class := { plain "java/io/Serializable" (some 0) with
  accessFlags := 1537
  interfaces := #[]
  cf := some (fileOf pool4 2 #[] #[] 1537 4 #[] #[])
  fields := #[]
  methods := #[]
  instanceTypes := #[]
  staticTypes := #[]
  resolved := Array.replicate 8 none
  statics := none }

/-- the primitive byte -/
def k5 : Class := { plain "byte" none with kind := .primitive 'B', accessFlags := 0x411 }
/-- [B -/
def k6 : Class := { plain "[B" (some 0) with kind := .array 5 .byte, interfaces := #[3, 4], accessFlags := 1041 }

def heap : Heap := #[]
def classes : Array Class := #[k0, k1, k2, k3, k4, k5, k6]
def interned : List (Array UInt16 × Addr) := []
def slotsUsed : Nat := 0
def theMethod : MethodId := ⟨1, 1⟩
def args0 : Array Value := #[.int 65]
def aboutOver (below : List Frame) : State where
  vm := { classes := classes, interned := interned.toArray }
  heap := heap
  slotsUsed := slotsUsed
  threads := #[{ frames := .invoking theMethod args0 :: below }]
def below0 : List Frame := [.native { method := ⟨0, 0⟩, args := #[] }]
def about1 : State := aboutOver below0
def p0 : Program := .bare "" "" ""
def e0 : Env := launch0.env 0 0 0
theorem w_frames : about1.frames = Frame.invoking theMethod args0 :: below0 := rfl
set_option maxRecDepth 65536 in
theorem w_args : argsFit about1.vm theMethod args0 = true := by decide +kernel
set_option maxRecDepth 65536 in
theorem w_heap : heapFits about1 = true := by decide +kernel
set_option maxRecDepth 65536 in
theorem w_runnable : about1.curStatus? = some .runnable := by decide +kernel
set_option maxRecDepth 65536 in
theorem w_alone : about1.alone = true := by decide +kernel
set_option maxRecDepth 65536 in
theorem w_named : about1.methodNamed? x = some theMethod := by decide +kernel
set_option maxRecDepth 65536 in
theorem w_hears : about1.hears theMethod below0 = true := by decide +kernel
set_option maxRecDepth 65536 in
theorem w_ripe : about1.ripe theMethod args0 below0 = true := by decide +kernel
theorem w_running : about1.status = .running := rfl
set_option maxRecDepth 65536 in
theorem w_room : about1.hasRoom e0.platform room_1 = true :=
  launch0.hasRoom_least _ room_1 (by decide +kernel) (by decide +kernel) (by decide +kernel) (by decide +kernel) (by decide +kernel) (by decide +kernel)
theorem allAtoms_all (ts : List Jvm.Cond) (a : Array Jvm.Value) (st : Jvm.State) : (allAtoms ts).before a st = ts.all (fun c => c.before a st) := by
  induction ts with
  | nil => rfl
  | cons c t ih =>
    show (Jvm.Cond.and c (allAtoms t)).before a st = _
    rw [Jvm.Cond.before_and, ih, List.all_cons]
def words1 : List Jvm.Cond := Jvm.Cond.code x code maxLocals ret :: tables_1
/-- a 'code' word, met by the world's own term for the bytes: nothing is compared byte by byte -/
theorem code_word {y : MethodName} {bytes : ByteArray} {mx : Nat} {rt : Option FieldType} {a : Array Value} {s : State} {m : MethodId} {meth : Method} {c : Code} (h1 : s.methodNamed? y = some m) (h2 : s.vm.method? m = some meth) (h3 : meth.code = some c) (h4 : c.code = bytes)
    (h5 : (c.maxLocals == mx && c.exceptionTable.isEmpty && decide (c.maxStack ≤ mostOperands) && decide (meth.sig.returnType = rt) && !meth.locks && decide (parseMethodDescriptor y.desc = some meth.sig)) = true) : (Jvm.Cond.code y bytes mx rt).before a s = true := by
  simp only [Bool.and_eq_true, beq_iff_eq, Bool.not_eq_true', decide_eq_true_eq] at h5
  obtain ⟨⟨⟨⟨⟨g1, g2⟩, g3⟩, g4⟩, g5⟩, g6⟩ := h5
  simp [Cond.before, Cond.holds, Cond.value, h1, h2, h3, h4, g1, g2, g3, g4, g5, g6]
def isCode : Jvm.Cond → Bool
  | .code _ _ _ _ => true
  | _ => false
theorem all_split {L : List Jvm.Cond} {P : Jvm.Cond → Bool} (h1 : L.all (fun c => isCode c || P c) = true) (h2 : ∀ c ∈ L.filter isCode, P c = true) : L.all P = true := by
  refine List.all_eq_true.mpr fun c hc => ?_
  have h := List.all_eq_true.mp h1 c hc
  rcases Bool.eq_false_or_eq_true (isCode c) with hi | hi
  · exact h2 c (List.mem_filter.mpr ⟨hc, hi⟩)
  · simpa [hi] using h
set_option maxRecDepth 65536 in
theorem w_c0 : (Jvm.Cond.code x code maxLocals ret).before args0 about1 = true := code_word (m := ⟨1, 1⟩) (meth := k1m1) (c := k1c1) (by decide +kernel) rfl rfl rfl (by decide +kernel)
set_option maxRecDepth 65536 in
theorem w_c1 : (Jvm.Cond.code ({ cls := "com/example/holding_queue/holdingqueue/engine/StoredMessage", name := "stateHeapBytes", desc := "(Z)J" } : Jvm.MethodName) prog_49_method_28_code (1 : Nat) (Option.some Jvm.ClassFile.FieldType.long)).before args0 about1 = true := code_word (m := ⟨2, 0⟩) (meth := k2m0) (c := k2c0) (by decide +kernel) rfl rfl rfl (by decide +kernel)
def codes1 : List Jvm.Cond := [Jvm.Cond.code x code maxLocals ret, Jvm.Cond.code ({ cls := "com/example/holding_queue/holdingqueue/engine/StoredMessage", name := "stateHeapBytes", desc := "(Z)J" } : Jvm.MethodName) prog_49_method_28_code (1 : Nat) (Option.some Jvm.ClassFile.FieldType.long)]
set_option maxRecDepth 65536 in
theorem codes_eq : words1.filter isCode = codes1 := rfl
theorem w_codes : ∀ c ∈ words1.filter isCode, c.before args0 about1 = true := by
  rw [codes_eq]
  intro c hc
  simp only [codes1, List.mem_cons, List.not_mem_nil, or_false] at hc
  rcases hc with rfl | rfl
  · exact w_c0
  · exact w_c1
set_option maxRecDepth 65536 in
theorem w_t1 : words1.all (fun c => isCode c || c.before args0 about1) = true := by decide +kernel
theorem w_tables : (allAtoms (Jvm.Cond.code x code maxLocals ret :: tables_1)).before args0 about1 = true := by
  rw [allAtoms_all]
  show words1.all (fun c => c.before args0 about1) = true
  refine all_split ?_ w_codes
  rw [w_t1]
set_option maxRecDepth 65536 in
theorem w_case : (Jvm.Cond.and given_1 narrow_1).before args0 about1 = true := by decide +kernel
theorem w_applies : (headSpec (Jvm.Cond.code x code maxLocals ret :: tables_1) room_1).applies x e0.platform about1 = true :=
  (Spec.applies_iff w_frames).mpr ⟨w_running, w_runnable, w_alone, w_named, w_hears, w_ripe, w_room, w_tables⟩
theorem atStart : AtStart classFile x code maxLocals ret World_1 tables_1 room_1 Calls_1 rest_1 Pre_1 launch0 p0 e0 about1 theMethod args0 below0 :=
  ⟨lists_1, trivial, launch0.admits_env _ _ _, launch0.least_env, fairChoices_fair.cas, fairChoices_fair.clock, w_frames, w_args, w_heap, w_applies, trivial, trivial, w_case⟩
end start1
theorem witness_1 : WitnessClaimed_1 := ⟨start1.p0, start1.e0, start1.about1, start1.theMethod, start1.args0, start1.below0, start1.atStart⟩
end Jvm.Pilot.@@N@@
