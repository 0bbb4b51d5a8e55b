import JvmDerived
import JvmDerived.Pilot.@@N@@Statement
import JvmDerived.Pilot.@@N@@Code
set_option linter.unusedVariables false
set_option linter.unusedSimpArgs false
namespace Jvm.RoadKit
open Sem ClassFile Op Lib Jvm.Stand Jvm.Free Jvm.LawKit
section New
variable {p : Program} {l : Launch} {e : Env} {R : Room} {s : State} {m : MethodId} {args : Array Value} {below : List Frame} {meth : Method} {c : Code} {T : State} {locs : List Loc} {cells slots : Nat}
theorem retI (X : Stand p l e R s m args below meth c T locs cells slots) (hx : p.tables.exec = Jvm.exec) {pc : Nat} {Ls : Array Slot} {z : Int32} {rest : List Value} (hret : meth.sig.returnType = some .int) (hd : decode c.code pc = .ok (.ireturn, 1)) {fs : List Frame}
    (hl : ∀ (f : JFrame) (acts : List Action), f.method = m → f.locked = none → f.entered = [] → (doReturn e (T.setTop f) acts (some (.int z))).1 = T.setFrames fs) : Steps p.tables e below (T.setTop (mkF m pc Ls (.int z :: rest))) (T.setFrames fs) := by
  have hm' : T.vm.method? m = some meth := X.method'
  have hn : narrow .int (.int z) = .int z := rfl
  show Steps p.tables e below (T.setTop { method := m, pc := pc, locals := Ls, stack := _ :: rest, locked := none }) _
  jvm_step X.here [X.here.top, hx, hd, hm', hret, hn]
  first | (intro acts; rw [hl _ acts rfl rfl rfl]) | rw [hl _ _ rfl rfl rfl]
  exact Steps.refl _
end New
end Jvm.RoadKit
namespace Jvm.Pilot.@@N@@
open Jvm Jvm.ClassFile Sem Op Lib Jvm.Free Jvm.Stand Jvm.LawKit Jvm.RoadKit Bundle Jvm.Pilot.@@N@@.Jvm.D
/-- from Y the run comes to an end of which Q tells -/
def own_G (FE : State → Outcome → State → List Loc → Nat → Nat → Prop) (p : Program) (e : Env) (below : List Frame) (s : State) (C S : Nat) (Q : Option Value → Heap → List Loc → Prop) (Y : State) : Prop :=
  ∃ s₂ o, Steps p.tables e below Y s₂ ∧ s₂.status = .running ∧ Ended s₂ below o ∧ ∃ v L, o = .returned v ∧ Q v s₂.heap L ∧ FE s o s₂ L C S
theorem own_go {FE : State → Outcome → State → List Loc → Nat → Nat → Prop} {p : Program} {e : Env} {below : List Frame} {s : State} {C S : Nat} {Q : Option Value → Heap → List Loc → Prop} {Y Y' : State} (k : own_G FE p e below s C S Q Y') (h : ∀ target, Steps p.tables e below Y' target → Steps p.tables e below Y target) : own_G FE p e below s C S Q Y :=
  let ⟨s₂, o, h1, r⟩ := k; ⟨s₂, o, h _ h1, r⟩
theorem d1_0 : decode prog_5_method_9_code 0 = .ok (.iload_n 0, 1) := by decide +kernel
theorem d1_1 : decode prog_5_method_9_code 1 = .ok (.bipush 97, 2) := by decide +kernel
theorem d1_3 : decode prog_5_method_9_code 3 = .ok (.if_icmp .lt 9, 3) := by decide +kernel
theorem d1_6 : decode prog_5_method_9_code 6 = .ok (.iload_n 0, 1) := by decide +kernel
theorem d1_7 : decode prog_5_method_9_code 7 = .ok (.bipush 122, 2) := by decide +kernel
theorem d1_9 : decode prog_5_method_9_code 9 = .ok (.if_icmp .le 27, 3) := by decide +kernel
theorem d1_12 : decode prog_5_method_9_code 12 = .ok (.iload_n 0, 1) := by decide +kernel
theorem d1_13 : decode prog_5_method_9_code 13 = .ok (.bipush 65, 2) := by decide +kernel
theorem d1_15 : decode prog_5_method_9_code 15 = .ok (.if_icmp .lt 9, 3) := by decide +kernel
theorem d1_18 : decode prog_5_method_9_code 18 = .ok (.iload_n 0, 1) := by decide +kernel
theorem d1_19 : decode prog_5_method_9_code 19 = .ok (.bipush 90, 2) := by decide +kernel
theorem d1_21 : decode prog_5_method_9_code 21 = .ok (.if_icmp .le 15, 3) := by decide +kernel
theorem d1_24 : decode prog_5_method_9_code 24 = .ok (.iload_n 0, 1) := by decide +kernel
theorem d1_25 : decode prog_5_method_9_code 25 = .ok (.bipush 95, 2) := by decide +kernel
theorem d1_27 : decode prog_5_method_9_code 27 = .ok (.if_icmp .eq 9, 3) := by decide +kernel
theorem d1_30 : decode prog_5_method_9_code 30 = .ok (.iload_n 0, 1) := by decide +kernel
theorem d1_31 : decode prog_5_method_9_code 31 = .ok (.bipush 127, 2) := by decide +kernel
theorem d1_33 : decode prog_5_method_9_code 33 = .ok (.if_icmp .le 7, 3) := by decide +kernel
theorem d1_36 : decode prog_5_method_9_code 36 = .ok (.iconst 1, 1) := by decide +kernel
theorem d1_37 : decode prog_5_method_9_code 37 = .ok (.goto 4, 3) := by decide +kernel
theorem d1_40 : decode prog_5_method_9_code 40 = .ok (.iconst 0, 1) := by decide +kernel
theorem d1_41 : decode prog_5_method_9_code 41 = .ok (.ireturn, 1) := by decide +kernel
theorem pn_1 : plainName "com/example/meerkat/meerkat/Identifier" = true := by first | (simp [plainName, overriddenIn]; done) | decide +kernel
theorem ef_1 (m : MethodId) (x0 : Int32) : entryFrame m #[(.int x0)] 1 = mkF m 0 #[iv x0] [] := by first | (simp [entryFrame, mkF, argsToLocals, Value.category]; done) | rfl
def f1 (p1 : Int32) : Int32 := (if p1 < (97 : Int32) then (if p1 < (65 : Int32) then (if p1 = (95 : Int32) then (1 : Int32) else (if (127 : Int32) < p1 then (1 : Int32) else (0 : Int32))) else (if (90 : Int32) < p1 then (if p1 = (95 : Int32) then (1 : Int32) else (if (127 : Int32) < p1 then (1 : Int32) else (0 : Int32))) else (1 : Int32))) else (if (122 : Int32) < p1 then (if p1 < (65 : Int32) then (if p1 = (95 : Int32) then (1 : Int32) else (if (127 : Int32) < p1 then (1 : Int32) else (0 : Int32))) else (if (90 : Int32) < p1 then (if p1 = (95 : Int32) then (1 : Int32) else (if (127 : Int32) < p1 then (1 : Int32) else (0 : Int32))) else (1 : Int32))) else (1 : Int32)))
def Q_rm1 (Z : State) (p1 : Int32) (h0 : Heap) (n0 : Nat) : Option Value → Heap → List Loc → Prop := fun v h L => v = some (.int (f1 p1)) ∧ Fr n0 L ∧ h = h0
set_option maxRecDepth 65536 in
set_option maxHeartbeats 40000000 in
theorem rm1 (l : Launch) (Z : State) (a0 : Array Value) (hw : ∀ d ∈ tables_1, d.before a0 Z = true) (ws : List Jvm.Cond) (p1 : Int32) (h0 : Heap) (n0 : Nat) (Z0 : n0 ≤ h0.size) :
    MetFree l (⟨"com/example/meerkat/meerkat/Identifier", "startsUnquoted", "(I)Z"⟩ : MethodName) (head1 (Jvm.Cond.code (⟨"com/example/meerkat/meerkat/Identifier", "startsUnquoted", "(I)Z"⟩ : MethodName) prog_5_method_9_code 1 (some .boolean) :: ws) ({ frames := 0, cells := 0, slots := 0, locals := 0 } : Room)) (fun a U => a = #[(.int p1)] ∧ Z.Warmed39 U.vm ∧ U.heap = h0) (fun _ _ _ _ _ => True) (fun _ U o U' => ∃ v L, o = .returned v ∧ (Q_rm1 Z p1 h0 n0) v U'.heap L ∧ FrameEnd U o U' L ({ frames := 0, cells := 0, slots := 0, locals := 0 } : Room).cells ({ frames := 0, cells := 0, slots := 0, locals := 0 } : Room).slots) := by
  refine MetFree.of_bodySF (plainFor_of_name pn_1) hisR ?_
  intro p e s m args below meth c s₁ Bd hml0 hP hK
  obtain ⟨rfl, hZ, hh⟩ := hP
  have hx := Bd.exec
  have hby := Bd.bytes
  have hml : c.maxLocals = 1 := hml0
  have hown : s.vm.findClass "com/example/meerkat/meerkat/Identifier" = some m.cls := findClass_of_methodNamed Bd.named
  have hnm := (name_of_methodNamed Bd.named Bd.method).1
  have X0 : Stand p l e ({ frames := 0, cells := 0, slots := 0, locals := 0 } : Room) s m #[(.int p1)] below meth c s₁ [] 0 0 := Stand.of_body Bd
  have e0 : s₁.heap = h0 := by rw [← hh, Bd.state]; rfl
  have N0 := Fr.nil n0
  show own_G FrameEnd p e below s ({ frames := 0, cells := 0, slots := 0, locals := 0 } : Room).cells ({ frames := 0, cells := 0, slots := 0, locals := 0 } : Room).slots (Q_rm1 Z p1 h0 n0) (s₁.setTop (entryFrame m #[(.int p1)] 1))
  refine own_go (Y' := s₁.setTop (mkF m 0 #[iv p1] [])) ?_ (fun t k => castTop (ef_1 m p1) k)
  refine own_go ?_ (fun target hr => XS.iloadN X0.here hx rfl (hb hby d1_0) rfl (XS.bipush X0.here hx rfl (hb hby d1_1) hr))
  show own_G _ p e below s _ _ _ (s₁.setTop (mkF m 3 #[iv p1] [(.int (97 : Int32)), (.int p1)]))
  by_cases hc3 : p1 < (97 : Int32)
  ·
    refine own_go ?_ (fun target hr => XS.icmpYes X0.here hx rfl (pc0 := 3) (pc' := 12) rfl (hb hby d1_3) rfl (tlt hc3).1 (by decide) (by decide) (XS.iloadN X0.here hx rfl (hb hby d1_12) rfl (XS.bipush X0.here hx rfl (hb hby d1_13) hr)))
    show own_G _ p e below s _ _ _ (s₁.setTop (mkF m 15 #[iv p1] [(.int (65 : Int32)), (.int p1)]))
    by_cases hc15 : p1 < (65 : Int32)
    ·
      refine own_go ?_ (fun target hr => XS.icmpYes X0.here hx rfl (pc0 := 15) (pc' := 24) rfl (hb hby d1_15) rfl (tlt hc15).1 (by decide) (by decide) (XS.iloadN X0.here hx rfl (hb hby d1_24) rfl (XS.bipush X0.here hx rfl (hb hby d1_25) hr)))
      show own_G _ p e below s _ _ _ (s₁.setTop (mkF m 27 #[iv p1] [(.int (95 : Int32)), (.int p1)]))
      by_cases hc27 : p1 = (95 : Int32)
      ·
        refine own_go ?_ (fun target hr => XS.icmpYes X0.here hx rfl (pc0 := 27) (pc' := 36) rfl (hb hby d1_27) rfl (teq hc27).1 (by decide) (by decide) (XS.iconst X0.here hx rfl (hb hby d1_36) (XS.goto X0.here hx rfl (pc0 := 37) (pc' := 41) rfl (hb hby d1_37) (by decide) (by decide) hr)))
        show own_G _ p e below s _ _ _ (s₁.setTop (mkF m 41 #[iv p1] [(.int (1 : Int32))]))
        obtain ⟨fs, hr, hrun, hended, hW, hsame⟩ := X0.leave (v := some (.int (1 : Int32))) (fun h => by rw [Bd.returns] at h; cases h)
        exact ⟨_, _, retN X0 hx (t := .boolean) Bd.returns (by simp) (hb hby d1_41) hr, hrun, hended, _, _, rfl, ⟨(by unfold f1; rw [if_pos hc3, if_pos hc15, if_pos hc27]), N0, e0⟩, ⟨_, rfl⟩, hW, hsame.mono (by decide) (by decide)⟩
      ·
        refine own_go ?_ (fun target hr => XS.icmpNo X0.here hx rfl (hb hby d1_27) rfl (feq hc27).1 (XS.iloadN X0.here hx rfl (hb hby d1_30) rfl (XS.bipush X0.here hx rfl (hb hby d1_31) hr)))
        show own_G _ p e below s _ _ _ (s₁.setTop (mkF m 33 #[iv p1] [(.int (127 : Int32)), (.int p1)]))
        by_cases hc33 : (127 : Int32) < p1
        ·
          refine own_go ?_ (fun target hr => XS.icmpNo X0.here hx rfl (hb hby d1_33) rfl (tlt hc33).2.2.2 (XS.iconst X0.here hx rfl (hb hby d1_36) (XS.goto X0.here hx rfl (pc0 := 37) (pc' := 41) rfl (hb hby d1_37) (by decide) (by decide) hr)))
          show own_G _ p e below s _ _ _ (s₁.setTop (mkF m 41 #[iv p1] [(.int (1 : Int32))]))
          obtain ⟨fs, hr, hrun, hended, hW, hsame⟩ := X0.leave (v := some (.int (1 : Int32))) (fun h => by rw [Bd.returns] at h; cases h)
          exact ⟨_, _, retN X0 hx (t := .boolean) Bd.returns (by simp) (hb hby d1_41) hr, hrun, hended, _, _, rfl, ⟨(by unfold f1; rw [if_pos hc3, if_pos hc15, if_neg hc27, if_pos hc33]), N0, e0⟩, ⟨_, rfl⟩, hW, hsame.mono (by decide) (by decide)⟩
        ·
          refine own_go ?_ (fun target hr => XS.icmpYes X0.here hx rfl (pc0 := 33) (pc' := 40) rfl (hb hby d1_33) rfl (flt hc33).2.2.2 (by decide) (by decide) (XS.iconst X0.here hx rfl (hb hby d1_40) hr))
          show own_G _ p e below s _ _ _ (s₁.setTop (mkF m 41 #[iv p1] [(.int (0 : Int32))]))
          obtain ⟨fs, hr, hrun, hended, hW, hsame⟩ := X0.leave (v := some (.int (0 : Int32))) (fun h => by rw [Bd.returns] at h; cases h)
          exact ⟨_, _, retN X0 hx (t := .boolean) Bd.returns (by simp) (hb hby d1_41) hr, hrun, hended, _, _, rfl, ⟨(by unfold f1; rw [if_pos hc3, if_pos hc15, if_neg hc27, if_neg hc33]), N0, e0⟩, ⟨_, rfl⟩, hW, hsame.mono (by decide) (by decide)⟩
    ·
      refine own_go ?_ (fun target hr => XS.icmpNo X0.here hx rfl (hb hby d1_15) rfl (flt hc15).1 (XS.iloadN X0.here hx rfl (hb hby d1_18) rfl (XS.bipush X0.here hx rfl (hb hby d1_19) hr)))
      show own_G _ p e below s _ _ _ (s₁.setTop (mkF m 21 #[iv p1] [(.int (90 : Int32)), (.int p1)]))
      by_cases hc21 : (90 : Int32) < p1
      ·
        refine own_go ?_ (fun target hr => XS.icmpNo X0.here hx rfl (hb hby d1_21) rfl (tlt hc21).2.2.2 (XS.iloadN X0.here hx rfl (hb hby d1_24) rfl (XS.bipush X0.here hx rfl (hb hby d1_25) hr)))
        show own_G _ p e below s _ _ _ (s₁.setTop (mkF m 27 #[iv p1] [(.int (95 : Int32)), (.int p1)]))
        by_cases hc27 : p1 = (95 : Int32)
        ·
          refine own_go ?_ (fun target hr => XS.icmpYes X0.here hx rfl (pc0 := 27) (pc' := 36) rfl (hb hby d1_27) rfl (teq hc27).1 (by decide) (by decide) (XS.iconst X0.here hx rfl (hb hby d1_36) (XS.goto X0.here hx rfl (pc0 := 37) (pc' := 41) rfl (hb hby d1_37) (by decide) (by decide) hr)))
          show own_G _ p e below s _ _ _ (s₁.setTop (mkF m 41 #[iv p1] [(.int (1 : Int32))]))
          obtain ⟨fs, hr, hrun, hended, hW, hsame⟩ := X0.leave (v := some (.int (1 : Int32))) (fun h => by rw [Bd.returns] at h; cases h)
          exact ⟨_, _, retN X0 hx (t := .boolean) Bd.returns (by simp) (hb hby d1_41) hr, hrun, hended, _, _, rfl, ⟨(by unfold f1; rw [if_pos hc3, if_neg hc15, if_pos hc21, if_pos hc27]), N0, e0⟩, ⟨_, rfl⟩, hW, hsame.mono (by decide) (by decide)⟩
        ·
          refine own_go ?_ (fun target hr => XS.icmpNo X0.here hx rfl (hb hby d1_27) rfl (feq hc27).1 (XS.iloadN X0.here hx rfl (hb hby d1_30) rfl (XS.bipush X0.here hx rfl (hb hby d1_31) hr)))
          show own_G _ p e below s _ _ _ (s₁.setTop (mkF m 33 #[iv p1] [(.int (127 : Int32)), (.int p1)]))
          by_cases hc33 : (127 : Int32) < p1
          ·
            refine own_go ?_ (fun target hr => XS.icmpNo X0.here hx rfl (hb hby d1_33) rfl (tlt hc33).2.2.2 (XS.iconst X0.here hx rfl (hb hby d1_36) (XS.goto X0.here hx rfl (pc0 := 37) (pc' := 41) rfl (hb hby d1_37) (by decide) (by decide) hr)))
            show own_G _ p e below s _ _ _ (s₁.setTop (mkF m 41 #[iv p1] [(.int (1 : Int32))]))
            obtain ⟨fs, hr, hrun, hended, hW, hsame⟩ := X0.leave (v := some (.int (1 : Int32))) (fun h => by rw [Bd.returns] at h; cases h)
            exact ⟨_, _, retN X0 hx (t := .boolean) Bd.returns (by simp) (hb hby d1_41) hr, hrun, hended, _, _, rfl, ⟨(by unfold f1; rw [if_pos hc3, if_neg hc15, if_pos hc21, if_neg hc27, if_pos hc33]), N0, e0⟩, ⟨_, rfl⟩, hW, hsame.mono (by decide) (by decide)⟩
          ·
            refine own_go ?_ (fun target hr => XS.icmpYes X0.here hx rfl (pc0 := 33) (pc' := 40) rfl (hb hby d1_33) rfl (flt hc33).2.2.2 (by decide) (by decide) (XS.iconst X0.here hx rfl (hb hby d1_40) hr))
            show own_G _ p e below s _ _ _ (s₁.setTop (mkF m 41 #[iv p1] [(.int (0 : Int32))]))
            obtain ⟨fs, hr, hrun, hended, hW, hsame⟩ := X0.leave (v := some (.int (0 : Int32))) (fun h => by rw [Bd.returns] at h; cases h)
            exact ⟨_, _, retN X0 hx (t := .boolean) Bd.returns (by simp) (hb hby d1_41) hr, hrun, hended, _, _, rfl, ⟨(by unfold f1; rw [if_pos hc3, if_neg hc15, if_pos hc21, if_neg hc27, if_neg hc33]), N0, e0⟩, ⟨_, rfl⟩, hW, hsame.mono (by decide) (by decide)⟩
      ·
        refine own_go ?_ (fun target hr => XS.icmpYes X0.here hx rfl (pc0 := 21) (pc' := 36) rfl (hb hby d1_21) rfl (flt hc21).2.2.2 (by decide) (by decide) (XS.iconst X0.here hx rfl (hb hby d1_36) (XS.goto X0.here hx rfl (pc0 := 37) (pc' := 41) rfl (hb hby d1_37) (by decide) (by decide) hr)))
        show own_G _ p e below s _ _ _ (s₁.setTop (mkF m 41 #[iv p1] [(.int (1 : Int32))]))
        obtain ⟨fs, hr, hrun, hended, hW, hsame⟩ := X0.leave (v := some (.int (1 : Int32))) (fun h => by rw [Bd.returns] at h; cases h)
        exact ⟨_, _, retN X0 hx (t := .boolean) Bd.returns (by simp) (hb hby d1_41) hr, hrun, hended, _, _, rfl, ⟨(by unfold f1; rw [if_pos hc3, if_neg hc15, if_neg hc21]), N0, e0⟩, ⟨_, rfl⟩, hW, hsame.mono (by decide) (by decide)⟩
  ·
    refine own_go ?_ (fun target hr => XS.icmpNo X0.here hx rfl (hb hby d1_3) rfl (flt hc3).1 (XS.iloadN X0.here hx rfl (hb hby d1_6) rfl (XS.bipush X0.here hx rfl (hb hby d1_7) hr)))
    show own_G _ p e below s _ _ _ (s₁.setTop (mkF m 9 #[iv p1] [(.int (122 : Int32)), (.int p1)]))
    by_cases hc9 : (122 : Int32) < p1
    ·
      refine own_go ?_ (fun target hr => XS.icmpNo X0.here hx rfl (hb hby d1_9) rfl (tlt hc9).2.2.2 (XS.iloadN X0.here hx rfl (hb hby d1_12) rfl (XS.bipush X0.here hx rfl (hb hby d1_13) hr)))
      show own_G _ p e below s _ _ _ (s₁.setTop (mkF m 15 #[iv p1] [(.int (65 : Int32)), (.int p1)]))
      by_cases hc15 : p1 < (65 : Int32)
      ·
        refine own_go ?_ (fun target hr => XS.icmpYes X0.here hx rfl (pc0 := 15) (pc' := 24) rfl (hb hby d1_15) rfl (tlt hc15).1 (by decide) (by decide) (XS.iloadN X0.here hx rfl (hb hby d1_24) rfl (XS.bipush X0.here hx rfl (hb hby d1_25) hr)))
        show own_G _ p e below s _ _ _ (s₁.setTop (mkF m 27 #[iv p1] [(.int (95 : Int32)), (.int p1)]))
        by_cases hc27 : p1 = (95 : Int32)
        ·
          refine own_go ?_ (fun target hr => XS.icmpYes X0.here hx rfl (pc0 := 27) (pc' := 36) rfl (hb hby d1_27) rfl (teq hc27).1 (by decide) (by decide) (XS.iconst X0.here hx rfl (hb hby d1_36) (XS.goto X0.here hx rfl (pc0 := 37) (pc' := 41) rfl (hb hby d1_37) (by decide) (by decide) hr)))
          show own_G _ p e below s _ _ _ (s₁.setTop (mkF m 41 #[iv p1] [(.int (1 : Int32))]))
          obtain ⟨fs, hr, hrun, hended, hW, hsame⟩ := X0.leave (v := some (.int (1 : Int32))) (fun h => by rw [Bd.returns] at h; cases h)
          exact ⟨_, _, retN X0 hx (t := .boolean) Bd.returns (by simp) (hb hby d1_41) hr, hrun, hended, _, _, rfl, ⟨(by unfold f1; rw [if_neg hc3, if_pos hc9, if_pos hc15, if_pos hc27]), N0, e0⟩, ⟨_, rfl⟩, hW, hsame.mono (by decide) (by decide)⟩
        ·
          refine own_go ?_ (fun target hr => XS.icmpNo X0.here hx rfl (hb hby d1_27) rfl (feq hc27).1 (XS.iloadN X0.here hx rfl (hb hby d1_30) rfl (XS.bipush X0.here hx rfl (hb hby d1_31) hr)))
          show own_G _ p e below s _ _ _ (s₁.setTop (mkF m 33 #[iv p1] [(.int (127 : Int32)), (.int p1)]))
          by_cases hc33 : (127 : Int32) < p1
          ·
            refine own_go ?_ (fun target hr => XS.icmpNo X0.here hx rfl (hb hby d1_33) rfl (tlt hc33).2.2.2 (XS.iconst X0.here hx rfl (hb hby d1_36) (XS.goto X0.here hx rfl (pc0 := 37) (pc' := 41) rfl (hb hby d1_37) (by decide) (by decide) hr)))
            show own_G _ p e below s _ _ _ (s₁.setTop (mkF m 41 #[iv p1] [(.int (1 : Int32))]))
            obtain ⟨fs, hr, hrun, hended, hW, hsame⟩ := X0.leave (v := some (.int (1 : Int32))) (fun h => by rw [Bd.returns] at h; cases h)
            exact ⟨_, _, retN X0 hx (t := .boolean) Bd.returns (by simp) (hb hby d1_41) hr, hrun, hended, _, _, rfl, ⟨(by unfold f1; rw [if_neg hc3, if_pos hc9, if_pos hc15, if_neg hc27, if_pos hc33]), N0, e0⟩, ⟨_, rfl⟩, hW, hsame.mono (by decide) (by decide)⟩
          ·
            refine own_go ?_ (fun target hr => XS.icmpYes X0.here hx rfl (pc0 := 33) (pc' := 40) rfl (hb hby d1_33) rfl (flt hc33).2.2.2 (by decide) (by decide) (XS.iconst X0.here hx rfl (hb hby d1_40) hr))
            show own_G _ p e below s _ _ _ (s₁.setTop (mkF m 41 #[iv p1] [(.int (0 : Int32))]))
            obtain ⟨fs, hr, hrun, hended, hW, hsame⟩ := X0.leave (v := some (.int (0 : Int32))) (fun h => by rw [Bd.returns] at h; cases h)
            exact ⟨_, _, retN X0 hx (t := .boolean) Bd.returns (by simp) (hb hby d1_41) hr, hrun, hended, _, _, rfl, ⟨(by unfold f1; rw [if_neg hc3, if_pos hc9, if_pos hc15, if_neg hc27, if_neg hc33]), N0, e0⟩, ⟨_, rfl⟩, hW, hsame.mono (by decide) (by decide)⟩
      ·
        refine own_go ?_ (fun target hr => XS.icmpNo X0.here hx rfl (hb hby d1_15) rfl (flt hc15).1 (XS.iloadN X0.here hx rfl (hb hby d1_18) rfl (XS.bipush X0.here hx rfl (hb hby d1_19) hr)))
        show own_G _ p e below s _ _ _ (s₁.setTop (mkF m 21 #[iv p1] [(.int (90 : Int32)), (.int p1)]))
        by_cases hc21 : (90 : Int32) < p1
        ·
          refine own_go ?_ (fun target hr => XS.icmpNo X0.here hx rfl (hb hby d1_21) rfl (tlt hc21).2.2.2 (XS.iloadN X0.here hx rfl (hb hby d1_24) rfl (XS.bipush X0.here hx rfl (hb hby d1_25) hr)))
          show own_G _ p e below s _ _ _ (s₁.setTop (mkF m 27 #[iv p1] [(.int (95 : Int32)), (.int p1)]))
          by_cases hc27 : p1 = (95 : Int32)
          ·
            refine own_go ?_ (fun target hr => XS.icmpYes X0.here hx rfl (pc0 := 27) (pc' := 36) rfl (hb hby d1_27) rfl (teq hc27).1 (by decide) (by decide) (XS.iconst X0.here hx rfl (hb hby d1_36) (XS.goto X0.here hx rfl (pc0 := 37) (pc' := 41) rfl (hb hby d1_37) (by decide) (by decide) hr)))
            show own_G _ p e below s _ _ _ (s₁.setTop (mkF m 41 #[iv p1] [(.int (1 : Int32))]))
            obtain ⟨fs, hr, hrun, hended, hW, hsame⟩ := X0.leave (v := some (.int (1 : Int32))) (fun h => by rw [Bd.returns] at h; cases h)
            exact ⟨_, _, retN X0 hx (t := .boolean) Bd.returns (by simp) (hb hby d1_41) hr, hrun, hended, _, _, rfl, ⟨(by unfold f1; rw [if_neg hc3, if_pos hc9, if_neg hc15, if_pos hc21, if_pos hc27]), N0, e0⟩, ⟨_, rfl⟩, hW, hsame.mono (by decide) (by decide)⟩
          ·
            refine own_go ?_ (fun target hr => XS.icmpNo X0.here hx rfl (hb hby d1_27) rfl (feq hc27).1 (XS.iloadN X0.here hx rfl (hb hby d1_30) rfl (XS.bipush X0.here hx rfl (hb hby d1_31) hr)))
            show own_G _ p e below s _ _ _ (s₁.setTop (mkF m 33 #[iv p1] [(.int (127 : Int32)), (.int p1)]))
            by_cases hc33 : (127 : Int32) < p1
            ·
              refine own_go ?_ (fun target hr => XS.icmpNo X0.here hx rfl (hb hby d1_33) rfl (tlt hc33).2.2.2 (XS.iconst X0.here hx rfl (hb hby d1_36) (XS.goto X0.here hx rfl (pc0 := 37) (pc' := 41) rfl (hb hby d1_37) (by decide) (by decide) hr)))
              show own_G _ p e below s _ _ _ (s₁.setTop (mkF m 41 #[iv p1] [(.int (1 : Int32))]))
              obtain ⟨fs, hr, hrun, hended, hW, hsame⟩ := X0.leave (v := some (.int (1 : Int32))) (fun h => by rw [Bd.returns] at h; cases h)
              exact ⟨_, _, retN X0 hx (t := .boolean) Bd.returns (by simp) (hb hby d1_41) hr, hrun, hended, _, _, rfl, ⟨(by unfold f1; rw [if_neg hc3, if_pos hc9, if_neg hc15, if_pos hc21, if_neg hc27, if_pos hc33]), N0, e0⟩, ⟨_, rfl⟩, hW, hsame.mono (by decide) (by decide)⟩
            ·
              refine own_go ?_ (fun target hr => XS.icmpYes X0.here hx rfl (pc0 := 33) (pc' := 40) rfl (hb hby d1_33) rfl (flt hc33).2.2.2 (by decide) (by decide) (XS.iconst X0.here hx rfl (hb hby d1_40) hr))
              show own_G _ p e below s _ _ _ (s₁.setTop (mkF m 41 #[iv p1] [(.int (0 : Int32))]))
              obtain ⟨fs, hr, hrun, hended, hW, hsame⟩ := X0.leave (v := some (.int (0 : Int32))) (fun h => by rw [Bd.returns] at h; cases h)
              exact ⟨_, _, retN X0 hx (t := .boolean) Bd.returns (by simp) (hb hby d1_41) hr, hrun, hended, _, _, rfl, ⟨(by unfold f1; rw [if_neg hc3, if_pos hc9, if_neg hc15, if_pos hc21, if_neg hc27, if_neg hc33]), N0, e0⟩, ⟨_, rfl⟩, hW, hsame.mono (by decide) (by decide)⟩
        ·
          refine own_go ?_ (fun target hr => XS.icmpYes X0.here hx rfl (pc0 := 21) (pc' := 36) rfl (hb hby d1_21) rfl (flt hc21).2.2.2 (by decide) (by decide) (XS.iconst X0.here hx rfl (hb hby d1_36) (XS.goto X0.here hx rfl (pc0 := 37) (pc' := 41) rfl (hb hby d1_37) (by decide) (by decide) hr)))
          show own_G _ p e below s _ _ _ (s₁.setTop (mkF m 41 #[iv p1] [(.int (1 : Int32))]))
          obtain ⟨fs, hr, hrun, hended, hW, hsame⟩ := X0.leave (v := some (.int (1 : Int32))) (fun h => by rw [Bd.returns] at h; cases h)
          exact ⟨_, _, retN X0 hx (t := .boolean) Bd.returns (by simp) (hb hby d1_41) hr, hrun, hended, _, _, rfl, ⟨(by unfold f1; rw [if_neg hc3, if_pos hc9, if_neg hc15, if_neg hc21]), N0, e0⟩, ⟨_, rfl⟩, hW, hsame.mono (by decide) (by decide)⟩
    ·
      refine own_go ?_ (fun target hr => XS.icmpYes X0.here hx rfl (pc0 := 9) (pc' := 36) rfl (hb hby d1_9) rfl (flt hc9).2.2.2 (by decide) (by decide) (XS.iconst X0.here hx rfl (hb hby d1_36) (XS.goto X0.here hx rfl (pc0 := 37) (pc' := 41) rfl (hb hby d1_37) (by decide) (by decide) hr)))
      show own_G _ p e below s _ _ _ (s₁.setTop (mkF m 41 #[iv p1] [(.int (1 : Int32))]))
      obtain ⟨fs, hr, hrun, hended, hW, hsame⟩ := X0.leave (v := some (.int (1 : Int32))) (fun h => by rw [Bd.returns] at h; cases h)
      exact ⟨_, _, retN X0 hx (t := .boolean) Bd.returns (by simp) (hb hby d1_41) hr, hrun, hended, _, _, rfl, ⟨(by unfold f1; rw [if_neg hc3, if_neg hc9]), N0, e0⟩, ⟨_, rfl⟩, hW, hsame.mono (by decide) (by decide)⟩
theorem d2_0 : decode method_2_code 0 = .ok (.iload_n 0, 1) := by decide +kernel
theorem d2_1 : decode method_2_code 1 = .ok (.bipush 127, 2) := by decide +kernel
theorem d2_3 : decode method_2_code 3 = .ok (.if_icmp .le 5, 3) := by decide +kernel
theorem d2_6 : decode method_2_code 6 = .ok (.iconst 1, 1) := by decide +kernel
theorem d2_7 : decode method_2_code 7 = .ok (.ireturn, 1) := by decide +kernel
theorem d2_8 : decode method_2_code 8 = .ok (.iload_n 0, 1) := by decide +kernel
theorem d2_9 : decode method_2_code 9 = .ok (.ifCond .ge 5, 3) := by decide +kernel
theorem d2_12 : decode method_2_code 12 = .ok (.iconst 0, 1) := by decide +kernel
theorem d2_13 : decode method_2_code 13 = .ok (.ireturn, 1) := by decide +kernel
theorem d2_14 : decode method_2_code 14 = .ok (.iload_n 0, 1) := by decide +kernel
theorem d2_15 : decode method_2_code 15 = .ok (.bipush 32, 2) := by decide +kernel
theorem d2_17 : decode method_2_code 17 = .ok (.ior, 1) := by decide +kernel
theorem d2_18 : decode method_2_code 18 = .ok (.istore_n 1, 1) := by decide +kernel
theorem d2_19 : decode method_2_code 19 = .ok (.iload_n 1, 1) := by decide +kernel
theorem d2_20 : decode method_2_code 20 = .ok (.bipush 97, 2) := by decide +kernel
theorem d2_22 : decode method_2_code 22 = .ok (.if_icmp .lt 11, 3) := by decide +kernel
theorem d2_25 : decode method_2_code 25 = .ok (.iload_n 1, 1) := by decide +kernel
theorem d2_26 : decode method_2_code 26 = .ok (.bipush 122, 2) := by decide +kernel
theorem d2_28 : decode method_2_code 28 = .ok (.if_icmp .gt 5, 3) := by decide +kernel
theorem d2_31 : decode method_2_code 31 = .ok (.iconst 1, 1) := by decide +kernel
theorem d2_32 : decode method_2_code 32 = .ok (.ireturn, 1) := by decide +kernel
theorem d2_33 : decode method_2_code 33 = .ok (.iload_n 0, 1) := by decide +kernel
theorem d2_34 : decode method_2_code 34 = .ok (.bipush 95, 2) := by decide +kernel
theorem d2_36 : decode method_2_code 36 = .ok (.if_icmp .ne 7, 3) := by decide +kernel
theorem d2_39 : decode method_2_code 39 = .ok (.iconst 1, 1) := by decide +kernel
theorem d2_40 : decode method_2_code 40 = .ok (.goto 4, 3) := by decide +kernel
theorem d2_43 : decode method_2_code 43 = .ok (.iconst 0, 1) := by decide +kernel
theorem d2_44 : decode method_2_code 44 = .ok (.ireturn, 1) := by decide +kernel
theorem pn_2 : plainName "com/example/meerkat/meerkat/IdentifierStartsUnquotedPinLaw" = true := by first | (simp [plainName, overriddenIn]; done) | decide +kernel
theorem ef_2 (m : MethodId) (x0 : Int32) : entryFrame m #[(.int x0)] 2 = mkF m 0 #[iv x0, .unset] [] := by first | (simp [entryFrame, mkF, argsToLocals, Value.category]; done) | rfl
def f2 (p1 : Int32) : Int32 := (if (127 : Int32) < p1 then (1 : Int32) else (if p1 < (0 : Int32) then (0 : Int32) else (if (p1 ||| (32 : Int32)) < (97 : Int32) then (if p1 = (95 : Int32) then (1 : Int32) else (0 : Int32)) else (if (122 : Int32) < (p1 ||| (32 : Int32)) then (if p1 = (95 : Int32) then (1 : Int32) else (0 : Int32)) else (1 : Int32)))))
def Q_rm2 (Z : State) (p1 : Int32) (h0 : Heap) (n0 : Nat) : Option Value → Heap → List Loc → Prop := fun v h L => v = some (.int (f2 p1)) ∧ Fr n0 L ∧ h = h0
set_option maxRecDepth 65536 in
set_option maxHeartbeats 40000000 in
theorem rm2 (l : Launch) (Z : State) (a0 : Array Value) (hw : ∀ d ∈ tables_1, d.before a0 Z = true) (ws : List Jvm.Cond) (p1 : Int32) (h0 : Heap) (n0 : Nat) (Z0 : n0 ≤ h0.size) :
    MetFree l (⟨"com/example/meerkat/meerkat/IdentifierStartsUnquotedPinLaw", "expected", "(I)Z"⟩ : MethodName) (head1 (Jvm.Cond.code (⟨"com/example/meerkat/meerkat/IdentifierStartsUnquotedPinLaw", "expected", "(I)Z"⟩ : MethodName) method_2_code 2 (some .boolean) :: ws) ({ frames := 0, cells := 0, slots := 0, locals := 0 } : Room)) (fun a U => a = #[(.int p1)] ∧ Z.Warmed39 U.vm ∧ U.heap = h0) (fun _ _ _ _ _ => True) (fun _ U o U' => ∃ v L, o = .returned v ∧ (Q_rm2 Z p1 h0 n0) v U'.heap L ∧ FrameEnd U o U' L ({ frames := 0, cells := 0, slots := 0, locals := 0 } : Room).cells ({ frames := 0, cells := 0, slots := 0, locals := 0 } : Room).slots) := by
  refine MetFree.of_bodySF (plainFor_of_name pn_2) hisR ?_
  intro p e s m args below meth c s₁ Bd hml0 hP hK
  obtain ⟨rfl, hZ, hh⟩ := hP
  have hx := Bd.exec
  have hby := Bd.bytes
  have hml : c.maxLocals = 2 := hml0
  have hown : s.vm.findClass "com/example/meerkat/meerkat/IdentifierStartsUnquotedPinLaw" = some m.cls := findClass_of_methodNamed Bd.named
  have hnm := (name_of_methodNamed Bd.named Bd.method).1
  have X0 : Stand p l e ({ frames := 0, cells := 0, slots := 0, locals := 0 } : Room) s m #[(.int p1)] below meth c s₁ [] 0 0 := Stand.of_body Bd
  have e0 : s₁.heap = h0 := by rw [← hh, Bd.state]; rfl
  have N0 := Fr.nil n0
  show own_G FrameEnd p e below s ({ frames := 0, cells := 0, slots := 0, locals := 0 } : Room).cells ({ frames := 0, cells := 0, slots := 0, locals := 0 } : Room).slots (Q_rm2 Z p1 h0 n0) (s₁.setTop (entryFrame m #[(.int p1)] 2))
  refine own_go (Y' := s₁.setTop (mkF m 0 #[iv p1, .unset] [])) ?_ (fun t k => castTop (ef_2 m p1) k)
  refine own_go ?_ (fun target hr => XS.iloadN X0.here hx rfl (hb hby d2_0) rfl (XS.bipush X0.here hx rfl (hb hby d2_1) hr))
  show own_G _ p e below s _ _ _ (s₁.setTop (mkF m 3 #[iv p1, .unset] [(.int (127 : Int32)), (.int p1)]))
  by_cases hc3 : (127 : Int32) < p1
  ·
    refine own_go ?_ (fun target hr => XS.icmpNo X0.here hx rfl (hb hby d2_3) rfl (tlt hc3).2.2.2 (XS.iconst X0.here hx rfl (hb hby d2_6) hr))
    show own_G _ p e below s _ _ _ (s₁.setTop (mkF m 7 #[iv p1, .unset] [(.int (1 : Int32))]))
    obtain ⟨fs, hr, hrun, hended, hW, hsame⟩ := X0.leave (v := some (.int (1 : Int32))) (fun h => by rw [Bd.returns] at h; cases h)
    exact ⟨_, _, retN X0 hx (t := .boolean) Bd.returns (by simp) (hb hby d2_7) hr, hrun, hended, _, _, rfl, ⟨(by unfold f2; rw [if_pos hc3]), N0, e0⟩, ⟨_, rfl⟩, hW, hsame.mono (by decide) (by decide)⟩
  ·
    refine own_go ?_ (fun target hr => XS.icmpYes X0.here hx rfl (pc0 := 3) (pc' := 8) rfl (hb hby d2_3) rfl (flt hc3).2.2.2 (by decide) (by decide) (XS.iloadN X0.here hx rfl (hb hby d2_8) rfl hr))
    show own_G _ p e below s _ _ _ (s₁.setTop (mkF m 9 #[iv p1, .unset] [(.int p1)]))
    by_cases hc9 : p1 < (0 : Int32)
    ·
      refine own_go ?_ (fun target hr => XS.ifNo X0.here hx rfl (hb hby d2_9) rfl ((if0 _ _).trans (tlt hc9).2.1) (XS.iconst X0.here hx rfl (hb hby d2_12) hr))
      show own_G _ p e below s _ _ _ (s₁.setTop (mkF m 13 #[iv p1, .unset] [(.int (0 : Int32))]))
      obtain ⟨fs, hr, hrun, hended, hW, hsame⟩ := X0.leave (v := some (.int (0 : Int32))) (fun h => by rw [Bd.returns] at h; cases h)
      exact ⟨_, _, retN X0 hx (t := .boolean) Bd.returns (by simp) (hb hby d2_13) hr, hrun, hended, _, _, rfl, ⟨(by unfold f2; rw [if_neg hc3, if_pos hc9]), N0, e0⟩, ⟨_, rfl⟩, hW, hsame.mono (by decide) (by decide)⟩
    ·
      refine own_go ?_ (fun target hr => XS.ifYes X0.here hx rfl (pc0 := 9) (pc' := 14) rfl (hb hby d2_9) rfl ((if0 _ _).trans (flt hc9).2.1) (by decide) (by decide) (XS.iloadN X0.here hx rfl (hb hby d2_14) rfl (XS.bipush X0.here hx rfl (hb hby d2_15) (XS.ior X0.here hx rfl (hb hby d2_17) rfl (XS.istoreN X0.here hx rfl (hb hby d2_18) rfl (l' := #[iv p1, iv (p1 ||| (32 : Int32))]) rfl (XS.iloadN X0.here hx rfl (hb hby d2_19) rfl (XS.bipush X0.here hx rfl (hb hby d2_20) hr)))))))
      show own_G _ p e below s _ _ _ (s₁.setTop (mkF m 22 #[iv p1, iv (p1 ||| (32 : Int32))] [(.int (97 : Int32)), (.int (p1 ||| (32 : Int32)))]))
      by_cases hc22 : (p1 ||| (32 : Int32)) < (97 : Int32)
      ·
        refine own_go ?_ (fun target hr => XS.icmpYes X0.here hx rfl (pc0 := 22) (pc' := 33) rfl (hb hby d2_22) rfl (tlt hc22).1 (by decide) (by decide) (XS.iloadN X0.here hx rfl (hb hby d2_33) rfl (XS.bipush X0.here hx rfl (hb hby d2_34) hr)))
        show own_G _ p e below s _ _ _ (s₁.setTop (mkF m 36 #[iv p1, iv (p1 ||| (32 : Int32))] [(.int (95 : Int32)), (.int p1)]))
        by_cases hc36 : p1 = (95 : Int32)
        ·
          refine own_go ?_ (fun target hr => XS.icmpNo X0.here hx rfl (hb hby d2_36) rfl (teq hc36).2 (XS.iconst X0.here hx rfl (hb hby d2_39) (XS.goto X0.here hx rfl (pc0 := 40) (pc' := 44) rfl (hb hby d2_40) (by decide) (by decide) hr)))
          show own_G _ p e below s _ _ _ (s₁.setTop (mkF m 44 #[iv p1, iv (p1 ||| (32 : Int32))] [(.int (1 : Int32))]))
          obtain ⟨fs, hr, hrun, hended, hW, hsame⟩ := X0.leave (v := some (.int (1 : Int32))) (fun h => by rw [Bd.returns] at h; cases h)
          exact ⟨_, _, retN X0 hx (t := .boolean) Bd.returns (by simp) (hb hby d2_44) hr, hrun, hended, _, _, rfl, ⟨(by unfold f2; rw [if_neg hc3, if_neg hc9, if_pos hc22, if_pos hc36]), N0, e0⟩, ⟨_, rfl⟩, hW, hsame.mono (by decide) (by decide)⟩
        ·
          refine own_go ?_ (fun target hr => XS.icmpYes X0.here hx rfl (pc0 := 36) (pc' := 43) rfl (hb hby d2_36) rfl (feq hc36).2 (by decide) (by decide) (XS.iconst X0.here hx rfl (hb hby d2_43) hr))
          show own_G _ p e below s _ _ _ (s₁.setTop (mkF m 44 #[iv p1, iv (p1 ||| (32 : Int32))] [(.int (0 : Int32))]))
          obtain ⟨fs, hr, hrun, hended, hW, hsame⟩ := X0.leave (v := some (.int (0 : Int32))) (fun h => by rw [Bd.returns] at h; cases h)
          exact ⟨_, _, retN X0 hx (t := .boolean) Bd.returns (by simp) (hb hby d2_44) hr, hrun, hended, _, _, rfl, ⟨(by unfold f2; rw [if_neg hc3, if_neg hc9, if_pos hc22, if_neg hc36]), N0, e0⟩, ⟨_, rfl⟩, hW, hsame.mono (by decide) (by decide)⟩
      ·
        refine own_go ?_ (fun target hr => XS.icmpNo X0.here hx rfl (hb hby d2_22) rfl (flt hc22).1 (XS.iloadN X0.here hx rfl (hb hby d2_25) rfl (XS.bipush X0.here hx rfl (hb hby d2_26) hr)))
        show own_G _ p e below s _ _ _ (s₁.setTop (mkF m 28 #[iv p1, iv (p1 ||| (32 : Int32))] [(.int (122 : Int32)), (.int (p1 ||| (32 : Int32)))]))
        by_cases hc28 : (122 : Int32) < (p1 ||| (32 : Int32))
        ·
          refine own_go ?_ (fun target hr => XS.icmpYes X0.here hx rfl (pc0 := 28) (pc' := 33) rfl (hb hby d2_28) rfl (tlt hc28).2.2.1 (by decide) (by decide) (XS.iloadN X0.here hx rfl (hb hby d2_33) rfl (XS.bipush X0.here hx rfl (hb hby d2_34) hr)))
          show own_G _ p e below s _ _ _ (s₁.setTop (mkF m 36 #[iv p1, iv (p1 ||| (32 : Int32))] [(.int (95 : Int32)), (.int p1)]))
          by_cases hc36 : p1 = (95 : Int32)
          ·
            refine own_go ?_ (fun target hr => XS.icmpNo X0.here hx rfl (hb hby d2_36) rfl (teq hc36).2 (XS.iconst X0.here hx rfl (hb hby d2_39) (XS.goto X0.here hx rfl (pc0 := 40) (pc' := 44) rfl (hb hby d2_40) (by decide) (by decide) hr)))
            show own_G _ p e below s _ _ _ (s₁.setTop (mkF m 44 #[iv p1, iv (p1 ||| (32 : Int32))] [(.int (1 : Int32))]))
            obtain ⟨fs, hr, hrun, hended, hW, hsame⟩ := X0.leave (v := some (.int (1 : Int32))) (fun h => by rw [Bd.returns] at h; cases h)
            exact ⟨_, _, retN X0 hx (t := .boolean) Bd.returns (by simp) (hb hby d2_44) hr, hrun, hended, _, _, rfl, ⟨(by unfold f2; rw [if_neg hc3, if_neg hc9, if_neg hc22, if_pos hc28, if_pos hc36]), N0, e0⟩, ⟨_, rfl⟩, hW, hsame.mono (by decide) (by decide)⟩
          ·
            refine own_go ?_ (fun target hr => XS.icmpYes X0.here hx rfl (pc0 := 36) (pc' := 43) rfl (hb hby d2_36) rfl (feq hc36).2 (by decide) (by decide) (XS.iconst X0.here hx rfl (hb hby d2_43) hr))
            show own_G _ p e below s _ _ _ (s₁.setTop (mkF m 44 #[iv p1, iv (p1 ||| (32 : Int32))] [(.int (0 : Int32))]))
            obtain ⟨fs, hr, hrun, hended, hW, hsame⟩ := X0.leave (v := some (.int (0 : Int32))) (fun h => by rw [Bd.returns] at h; cases h)
            exact ⟨_, _, retN X0 hx (t := .boolean) Bd.returns (by simp) (hb hby d2_44) hr, hrun, hended, _, _, rfl, ⟨(by unfold f2; rw [if_neg hc3, if_neg hc9, if_neg hc22, if_pos hc28, if_neg hc36]), N0, e0⟩, ⟨_, rfl⟩, hW, hsame.mono (by decide) (by decide)⟩
        ·
          refine own_go ?_ (fun target hr => XS.icmpNo X0.here hx rfl (hb hby d2_28) rfl (flt hc28).2.2.1 (XS.iconst X0.here hx rfl (hb hby d2_31) hr))
          show own_G _ p e below s _ _ _ (s₁.setTop (mkF m 32 #[iv p1, iv (p1 ||| (32 : Int32))] [(.int (1 : Int32))]))
          obtain ⟨fs, hr, hrun, hended, hW, hsame⟩ := X0.leave (v := some (.int (1 : Int32))) (fun h => by rw [Bd.returns] at h; cases h)
          exact ⟨_, _, retN X0 hx (t := .boolean) Bd.returns (by simp) (hb hby d2_32) hr, hrun, hended, _, _, rfl, ⟨(by unfold f2; rw [if_neg hc3, if_neg hc9, if_neg hc22, if_neg hc28]), N0, e0⟩, ⟨_, rfl⟩, hW, hsame.mono (by decide) (by decide)⟩
theorem pn_0 : plainName "com/example/meerkat/meerkat/IdentifierStartsUnquotedPinLaw" = true := by first | (simp [plainName, overriddenIn]; done) | decide +kernel
theorem pd__I_Z : parseMethodDescriptor "(I)Z" = some ⟨[.int], some .boolean⟩ := by decide +kernel
theorem ef_0 (m : MethodId) (x0 : Int32) : entryFrame m #[(.int x0)] maxLocals = mkF m 0 #[iv x0, .unset] [] := by first | (simp [entryFrame, mkF, argsToLocals, Value.category, maxLocals]; done) | rfl
def f0 (p1 : Int32) : Int32 := (if (f1 p1) = (f2 p1) then (1 : Int32) else (0 : Int32))
def Q_rm0 (Z : State) (p1 : Int32) (h0 : Heap) (n0 : Nat) : Option Value → Heap → List Loc → Prop := fun v h L => v = some (.int (f0 p1)) ∧ Fr n0 L ∧ h = h0
set_option maxRecDepth 65536 in
set_option maxHeartbeats 40000000 in
theorem rm0 (l : Launch) (Z : State) (a0 : Array Value) (hw : ∀ d ∈ tables_1, d.before a0 Z = true) (ws : List Jvm.Cond) (p1 : Int32) (h0 : Heap) (n0 : Nat) (Z0 : n0 ≤ h0.size) :
    MetFree l x (head1 (Jvm.Cond.code x code maxLocals ret :: ws) room_1) (fun a U => a = #[(.int p1)] ∧ Z.Warmed39 U.vm ∧ U.heap = h0) (fun _ _ _ _ _ => True) (fun _ U o U' => ∃ v L, o = .returned v ∧ (Q_rm0 Z p1 h0 n0) v U'.heap L ∧ FrameEnd U o U' L room_1.cells room_1.slots) := by
  refine MetFree.of_bodySF (plainFor_of_name pn_0) hisR ?_
  intro p e s m args below meth c s₁ Bd hml0 hP hK
  obtain ⟨rfl, hZ, hh⟩ := hP
  have hx := Bd.exec
  have hby := Bd.bytes
  have hml : c.maxLocals = 2 := hml0
  have hown : s.vm.findClass "com/example/meerkat/meerkat/IdentifierStartsUnquotedPinLaw" = some m.cls := findClass_of_methodNamed Bd.named
  have hnm := (name_of_methodNamed Bd.named Bd.method).1
  have X0 : Stand p l e room_1 s m #[(.int p1)] below meth c s₁ [] 0 0 := Stand.of_body Bd
  have e0 : s₁.heap = h0 := by rw [← hh, Bd.state]; rfl
  have N0 := Fr.nil n0
  show own_G FrameEnd p e below s room_1.cells room_1.slots (Q_rm0 Z p1 h0 n0) (s₁.setTop (entryFrame m #[(.int p1)] maxLocals))
  refine own_go (Y' := s₁.setTop (mkF m 0 #[iv p1, .unset] [])) ?_ (fun t k => castTop (ef_0 m p1) k)
  refine own_go ?_ (fun target hr => XS.iloadN X0.here hx rfl (hb hby at_0) rfl hr)
  show own_G _ p e below s _ _ _ (s₁.setTop (mkF m 1 #[iv p1, .unset] [(.int p1)]))
  obtain ⟨_, _, ⟨T1, L1, k1, n1⟩, -, X1, ⟨Lc1, hQ1, l1, y1, z1⟩, st1⟩ := Jvm.LawKit.callS X0 hx (y := (⟨"com/example/meerkat/meerkat/Identifier", "startsUnquoted", "(I)Z"⟩ : MethodName)) hown (mvT hZ (hw _ (List.mem_of_getElem? (i := 0) rfl))) (mvT hZ (hw _ (List.mem_of_getElem? (i := 1) rfl))) (mvT hZ (hw _ (List.mem_of_getElem? (i := 2) rfl))) (mvT hZ (hw _ (List.mem_of_getElem? (i := 3) rfl))) (by decide) (backOf (W := 0) (rm1 l Z a0 hw [] p1 h0 n0 Z0 ) hZ (hw _ (List.mem_of_getElem? (i := 3) rfl)) (hw _ (List.mem_of_getElem? (i := 2) rfl)) (by decide) (by decide)) (g := (mkF m 1 #[iv p1, .unset] [(.int p1)])) rfl (by rw [hml]; rfl) (argsL := [(.int p1)]) (rest := []) (lenOf pd__I_Z rfl) rfl (by show 2 * 0 + _ ≤ _; exact Nat.le_of_eq rfl) (hb hby at_1) (fun _ _ => ⟨rfl, e0, (by decide : 0 + 0 ≤ _), (by decide : 0 + 0 ≤ _)⟩)
  dsimp only [Pt.U, Pt.locs, Pt.cells, Pt.slots] at X1 l1 y1 z1 st1 hQ1
  subst l1 y1 z1
  obtain ⟨rfl, N1q, e1⟩ := hQ1
  have N1 := Fr.app N0 N1q
  refine own_go ?_ (fun target hr => st1 _ (XS.istoreN X1.here hx rfl (hb hby at_4) rfl (l' := #[iv p1, iv (f1 p1)]) rfl (XS.iloadN X1.here hx rfl (hb hby at_5) rfl (XS.iloadN X1.here hx rfl (hb hby at_6) rfl hr))))
  show own_G _ p e below s _ _ _ (T1.setTop (mkF m 7 #[iv p1, iv (f1 p1)] [(.int p1), (.int (f1 p1))]))
  obtain ⟨_, _, ⟨T2, L2, k2, n2⟩, -, X2, ⟨Lc2, hQ2, l2, y2, z2⟩, st2⟩ := Jvm.LawKit.callS X1 hx (y := (⟨"com/example/meerkat/meerkat/IdentifierStartsUnquotedPinLaw", "expected", "(I)Z"⟩ : MethodName)) hown (mvT hZ (hw _ (List.mem_of_getElem? (i := 4) rfl))) (mvT hZ (hw _ (List.mem_of_getElem? (i := 5) rfl))) (mvT hZ (hw _ (List.mem_of_getElem? (i := 6) rfl))) (mvT hZ (hw _ (List.mem_of_getElem? (i := 7) rfl))) (by decide) (backOf (W := 1) (rm2 l Z a0 hw [] p1 h0 n0 Z0 ) hZ (hw _ (List.mem_of_getElem? (i := 7) rfl)) (hw _ (List.mem_of_getElem? (i := 6) rfl)) (by decide) (by decide)) (g := (mkF m 7 #[iv p1, iv (f1 p1)] [(.int p1), (.int (f1 p1))])) rfl (by rw [hml]; rfl) (argsL := [(.int p1)]) (rest := [(.int (f1 p1))]) (lenOf pd__I_Z rfl) rfl (by show 2 * 0 + _ ≤ _; exact Nat.le_of_eq rfl) (hb hby at_7) (fun _ _ => ⟨rfl, e1, (by decide : 0 + 0 ≤ _), (by decide : 0 + 0 ≤ _)⟩)
  dsimp only [Pt.U, Pt.locs, Pt.cells, Pt.slots] at X2 l2 y2 z2 st2 hQ2
  subst l2 y2 z2
  obtain ⟨rfl, N2q, e2⟩ := hQ2
  have N2 := Fr.app N1 N2q
  refine own_go ?_ (fun target hr => st2 _ hr)
  show own_G _ p e below s _ _ _ (T2.setTop (mkF m 10 #[iv p1, iv (f1 p1)] [(.int (f2 p1)), (.int (f1 p1))]))
  by_cases hc10 : (f1 p1) = (f2 p1)
  ·
    refine own_go ?_ (fun target hr => XS.icmpNo X2.here hx rfl (hb hby at_10) rfl (teq hc10).2 (XS.iconst X2.here hx rfl (hb hby at_13) (XS.goto X2.here hx rfl (pc0 := 14) (pc' := 18) rfl (hb hby at_14) (by decide) (by decide) hr)))
    show own_G _ p e below s _ _ _ (T2.setTop (mkF m 18 #[iv p1, iv (f1 p1)] [(.int (1 : Int32))]))
    obtain ⟨fs, hr, hrun, hended, hW, hsame⟩ := X2.leave (v := some (.int (1 : Int32))) (fun h => by rw [Bd.returns] at h; cases h)
    exact ⟨_, _, retN X2 hx (t := .boolean) Bd.returns (by simp) (hb hby at_18) hr, hrun, hended, _, _, rfl, ⟨(by unfold f0; rw [if_pos hc10]), N2, e2⟩, ⟨_, rfl⟩, hW, hsame.mono (by decide) (by decide)⟩
  ·
    refine own_go ?_ (fun target hr => XS.icmpYes X2.here hx rfl (pc0 := 10) (pc' := 17) rfl (hb hby at_10) rfl (feq hc10).2 (by decide) (by decide) (XS.iconst X2.here hx rfl (hb hby at_17) hr))
    show own_G _ p e below s _ _ _ (T2.setTop (mkF m 18 #[iv p1, iv (f1 p1)] [(.int (0 : Int32))]))
    obtain ⟨fs, hr, hrun, hended, hW, hsame⟩ := X2.leave (v := some (.int (0 : Int32))) (fun h => by rw [Bd.returns] at h; cases h)
    exact ⟨_, _, retN X2 hx (t := .boolean) Bd.returns (by simp) (hb hby at_18) hr, hrun, hended, _, _, rfl, ⟨(by unfold f0; rw [if_neg hc10]), N2, e2⟩, ⟨_, rfl⟩, hW, hsame.mono (by decide) (by decide)⟩
theorem own_nat_or32 (n : Nat) : n ||| 32 = n + 32 * (1 - n / 32 % 2) := by
  have h1 : (n ||| 32) / 2 ^ 6 = n / 2 ^ 6 := by rw [Nat.or_div_two_pow]; simp
  have h2 : (n ||| 32) % 2 ^ 6 = n % 2 ^ 6 ||| 32 := by rw [Nat.or_mod_two_pow]
  have h3 : ∀ r : Fin 64, (r.val ||| 32) = r.val + 32 * (1 - r.val / 32 % 2) := by decide
  have h4 := h3 ⟨n % 64, Nat.mod_lt _ (by decide)⟩
  simp only at h4
  have h5 : n % 64 = n % 2 ^ 6 := rfl
  rw [h5, ← h2] at h4
  omega
theorem own_or32 (c : Int32) (h0 : 0 ≤ c.toInt) : (c ||| 32).toInt = c.toInt + 32 * (1 - c.toInt / 32 % 2) := by
  have hb := c.toInt_lt
  have e : ∀ z : Int32, z.toBitVec.toNat < 2147483648 → z.toInt = (z.toBitVec.toNat : Int) := fun z hz => by
    rw [← Int32.toInt_toBitVec, BitVec.toInt_eq_toNat_cond, if_pos (by omega)]
  have hn : c.toBitVec.toNat < 2147483648 := by
    have q := Int32.toInt_toBitVec c
    rw [BitVec.toInt_eq_toNat_cond] at q
    have := c.toBitVec.isLt
    split at q <;> omega
  have h1 : (c ||| 32).toBitVec.toNat = c.toBitVec.toNat + 32 * (1 - c.toBitVec.toNat / 32 % 2) := by
    rw [Int32.toBitVec_or, BitVec.toNat_or]; exact own_nat_or32 _
  have e1 := e c hn
  have e2 := e (c ||| 32) (by omega)
  omega
theorem own_f1 (c : Int32) : f1 c = if (65 ≤ c.toInt ∧ c.toInt ≤ 90) ∨ (97 ≤ c.toInt ∧ c.toInt ≤ 122) ∨ c.toInt = 95 ∨ 127 < c.toInt then 1 else 0 := by
  have k65 : (65 : Int32).toInt = 65 := rfl
  have k90 : (90 : Int32).toInt = 90 := rfl
  have k95 : (95 : Int32).toInt = 95 := rfl
  have k97 : (97 : Int32).toInt = 97 := rfl
  have k122 : (122 : Int32).toInt = 122 := rfl
  have k127 : (127 : Int32).toInt = 127 := rfl
  unfold f1
  simp only [Int32.lt_iff_toInt_lt, ← Int32.toInt_inj, k97, k65, k90, k95, k122, k127]
  generalize c.toInt = k
  repeat' split
  all_goals first | rfl | (exfalso; omega)
theorem own_f2 (c : Int32) : f2 c = if (65 ≤ c.toInt ∧ c.toInt ≤ 90) ∨ (97 ≤ c.toInt ∧ c.toInt ≤ 122) ∨ c.toInt = 95 ∨ 127 < c.toInt then 1 else 0 := by
  have k0 : (0 : Int32).toInt = 0 := rfl
  have k95 : (95 : Int32).toInt = 95 := rfl
  have k97 : (97 : Int32).toInt = 97 := rfl
  have k122 : (122 : Int32).toInt = 122 := rfl
  have k127 : (127 : Int32).toInt = 127 := rfl
  have h32 := own_or32 c
  unfold f2
  simp only [Int32.lt_iff_toInt_lt, ← Int32.toInt_inj, k0, k97, k95, k122, k127]
  generalize (c ||| (32 : Int32)).toInt = o at *
  generalize c.toInt = k at *
  repeat' split
  all_goals first | rfl | (exfalso; omega)
theorem own_plain (x : Int32) : f0 x = 1 := by
  unfold f0
  rw [own_f1, own_f2, if_pos rfl]
set_option maxRecDepth 65536 in
set_option maxHeartbeats 40000000 in
theorem comes_1 {Post : Tables → Env → Array Value → State → Outcome → State → Prop} (hpost : ∀ tb e args s v u, (limb_1_1.after args s (.returned v) u = true ∧ limb_1_2.after args s (.returned v) u = true ∧ True) → FrameEnd s (.returned v) u (Jvm.fieldLocs frame_1_writes args s ++ Jvm.arrayLocs frame_1_arrays args s ++ Jvm.staticLocs frame_1_statics s) 0 0 → Post tb e args s (.returned v) u) :
    ArmFor flags0 classFile x code maxLocals ret World_1 tables_1 room_1 Calls_1 rest_1 Pre_1 Post := by
  intro l hfl _ _ p e ha hc hk s m args below hf hA hF happ hP
  obtain ⟨hcalls, hrest, hpre⟩ := hP
  obtain ⟨-, -, -, hnamed, -, -, -, hat⟩ := (Spec.applies_iff hf).mp happ
  obtain ⟨hg, hn⟩ := and_e (Cond.before_iff.mp (show (Jvm.Cond.and given_1 narrow_1).before args s = true from hpre))
  obtain ⟨h1, g0⟩ := and_e hg
  obtain ⟨w0, rfl⟩ : ∃ w0 : Value, args = #[w0] := by
    have hs : args.size = 1 := by simpa [Cond.value, given_1] using h1
    obtain ⟨L⟩ := args
    match L, hs with
    | [w0], _ => exact ⟨w0, rfl⟩
  have hw := fun d (hd : d ∈ tables_1) => atoms_spec (ws := Jvm.Cond.code x code maxLocals ret :: tables_1) hat d (List.mem_cons_of_mem _ hd)
  have hfit : Fit s := fun {y c} hc i hi => by
    obtain ⟨ha, rfl⟩ := Array.getElem?_eq_some_iff.mp hc
    have q := List.all_eq_true.mp ((Array.all_eq_true_iff_forall_mem.mp hF) _ (Array.getElem_mem ha)) i (List.mem_range.mpr hi)
    simpa [Array.getElem?_eq_getElem hi] using q
  obtain ⟨i0, ev0⟩ := is_v g0
  obtain rfl : w0 = (.int i0) := Option.some.inj ev0
  obtain ⟨n, o, h1, h2, h3, _, L, rfl, ⟨rfl, N, _⟩, hq⟩ := rm0 l s _ hw tables_1 i0 s.heap s.heap.size (Nat.le_refl _)  p e ha hc hk s m _ below hf ((Spec.applies_iff_loose hf).mp happ).1 ⟨rfl, State.Warmed39.refl s, rfl⟩ trivial
  refine ⟨n, _, h1, h2, h3, hpost _ _ _ _ _ _ ⟨Cond.after_iff.mpr rfl, Cond.after_iff.mpr (eq_i res_at (Term.int_eval (1)) (congrArg Value.int (own_plain i0))), trivial⟩ ⟨hq.1, hq.2.1, (hq.2.2.sift fun y hy => Or.inr (N y hy)).mono (by decide) (by decide)⟩⟩
theorem main_1_1 : Claimed_1_1 := comes_1 fun _ _ _ _ _ _ h hF => ⟨h.1, hF⟩
theorem main_1_2 : Claimed_1_2 := comes_1 fun _ _ _ _ _ _ h hF => ⟨h.2.1, hF⟩
end Jvm.Pilot.@@N@@
namespace Jvm.Pilot.@@N@@
open Jvm Jvm.ClassFile Sem Op Lib Jvm.Free Jvm.Stand Jvm.Pilot.@@N@@.Jvm.D
/-! MADE BY PROGRAM (witnessworld.py) out of the Statement's table words and the real class files: 9 classes; the members and pool entries that the words name. The judged class is class 1, her method 2. -/
namespace start1
open Jvm.ClassFile
def u (s : String) : CpInfo := .utf8 (stringToUtf16 s)
/-- a pool by its gaps: so many unusable entries, then the entry; so many at the end -/
def gap : Nat → List CpInfo → List CpInfo
  | 0, r => r
  | n + 1, r => .unusable :: gap n r
def poolList (es : List (Nat × CpInfo)) (last : Nat) : List CpInfo := es.foldr (fun e r => gap e.1 (e.2 :: r)) (gap last [])
def pool (es : List (Nat × CpInfo)) (last : Nat) : Array CpInfo := ⟨poolList es last⟩
def fileOf (pool : Array CpInfo) (this : Nat) (attrs : Array Attribute := #[]) (ms : Array MethodInfo := #[]) (fl : Nat := 33) (sup : Nat := 0) (ifs : Array Nat := #[]) (fds : Array FieldInfo := #[]) : ClassFile where
  minorVersion := 0
  majorVersion := 65
  constantPool := pool
  accessFlags := fl
  thisClass := this
  superClass := sup
  interfaces := ifs
  fields := fds
  methods := ms
  attributes := attrs
def plain (name : String) (sup : Option ClassId) : Class where
  name := name
  kind := .ordinary
  loader := none
  accessFlags := 33
  super := sup
  interfaces := #[]
  cf := none
  fields := #[]
  methods := #[]
  instanceTypes := #[]
  staticTypes := #[]
  resolved := #[]
  callSites := []
  init := .initialized
  statics := none
  mirror := none

def pool0 : Array CpInfo := pool [(5, u "<init>"), (0, u "()V"), (1, .class_ 10), (1, u "java/lang/Object")] 113

def k0m0 : Method := { name := "<init>", desc := "()V", sig := { parameters := [], returnType := none }, accessFlags := 1, code := none }
/-- java/lang/Object -/
def k0 : Class := { plain "java/lang/Object" none with
  accessFlags := 33
  interfaces := #[]
  cf := some (fileOf pool0 8 #[] #[{ accessFlags := 1, nameIndex := 5, descriptorIndex := 6, attributes := #[] }] 33 0 #[] #[])
  fields := #[]
  methods := #[k0m0]
  instanceTypes := #[]
  staticTypes := #[]
  resolved := Array.replicate 124 none
  statics := none }

def pool1 : Array CpInfo := pool [(2, .class_ 4), (1, u "java/lang/Object"), (0, u "<init>"), (0, u "()V"), (0, .methodref 8 9), (0, .class_ 10), (0, .nameAndType 11 12), (0, u "com/example/meerkat/meerkat/Identifier"), (0, u "startsUnquoted"), (0, u "(I)Z"), (0, .methodref 14 15), (0, .class_ 16), (0, .nameAndType 17 12), (0, u "com/example/meerkat/meerkat/IdentifierStartsUnquotedPinLaw"), (0, u "expected"), (3, u "law")] 2

def k1m0 : Method := { name := "<init>", desc := "()V", sig := { parameters := [], returnType := none }, accessFlags := 2, code := none }
def k1c1 : Code := { maxStack := 2, maxLocals := 2, code := method_2_code, exceptionTable := #[], attributes := #[] }
def k1m1 : Method := { name := "expected", desc := "(I)Z", sig := { parameters := [.int], returnType := some .boolean }, accessFlags := 10, code := some k1c1 }
def k1c2 : Code := { maxStack := 2, maxLocals := 2, code := code, exceptionTable := #[], attributes := #[] }
def k1m2 : Method := { name := "law", desc := "(I)Z", sig := { parameters := [.int], returnType := some .boolean }, accessFlags := 9, code := some k1c2 }
/-- com/example/meerkat/meerkat/IdentifierStartsUnquotedPinLaw -/
def k1 : Class := { plain "com/example/meerkat/meerkat/IdentifierStartsUnquotedPinLaw" (some 0) with
  accessFlags := 49
  interfaces := #[]
  cf := some (fileOf pool1 14 #[] #[{ accessFlags := 2, nameIndex := 5, descriptorIndex := 6, attributes := #[] }, { accessFlags := 10, nameIndex := 17, descriptorIndex := 12, attributes := #[] }, { accessFlags := 9, nameIndex := 21, descriptorIndex := 12, attributes := #[] }] 49 2 #[] #[])
  fields := #[]
  methods := #[k1m0, k1m1, k1m2]
  instanceTypes := #[]
  staticTypes := #[]
  resolved := Array.replicate 24 none
  statics := none }

def pool2 : Array CpInfo := pool [(2, .class_ 4), (1, u "java/lang/Object"), (0, u "<init>"), (0, u "()V"), (0, .class_ 8), (0, u "java/lang/Record")] 13

def k2m0 : Method := { name := "<init>", desc := "()V", sig := { parameters := [], returnType := none }, accessFlags := 4, code := none }
/-- java/lang/Record -/
def k2 : Class := { plain "java/lang/Record" (some 0) with
  accessFlags := 1057
  interfaces := #[]
  cf := some (fileOf pool2 7 #[] #[{ accessFlags := 4, nameIndex := 5, descriptorIndex := 6, attributes := #[] }] 1057 2 #[] #[])
  fields := #[]
  methods := #[k2m0]
  instanceTypes := #[]
  staticTypes := #[]
  resolved := Array.replicate 22 none
  statics := none }

def pool3 : Array CpInfo := pool [(1, .class_ 2), (0, u "java/lang/Comparable"), (0, .class_ 4), (0, u "java/lang/Object")] 7

/-- java/lang/Comparable -/
def k3 : Class := { plain "java/lang/Comparable" (some 0) with
  accessFlags := 1537
  interfaces := #[]
  cf := some (fileOf pool3 1 #[] #[] 1537 3 #[] #[])
  fields := #[]
  methods := #[]
  instanceTypes := #[]
  staticTypes := #[]
  resolved := Array.replicate 12 none
  statics := none }

def pool4 : Array CpInfo := pool [(2, .class_ 4), (1, u "java/lang/Record"), (3, u "name"), (20, .class_ 31), (1, u "com/example/meerkat/meerkat/Identifier"), (8, u "Ljava/lang/String;"), (71, u "startsUnquoted"), (0, u "(I)Z"), (71, .class_ 186), (0, u "java/lang/Comparable"), (0, u "MAX_BYTES"), (0, u "I"), (2, u "QUOTE"), (0, u "C"), (1, u "DOUBLED_QUOTE")] 45

def k4c0 : Code := { maxStack := 2, maxLocals := 1, code := prog_5_method_9_code, exceptionTable := #[], attributes := #[] }
def k4m0 : Method := { name := "startsUnquoted", desc := "(I)Z", sig := { parameters := [.int], returnType := some .boolean }, accessFlags := 8, code := some k4c0 }
/-- com/example/meerkat/meerkat/Identifier -/
def k4 : Class := { plain "com/example/meerkat/meerkat/Identifier" (some 2) with
  accessFlags := 49
  interfaces := #[3]
  cf := some (fileOf pool4 29 #[] #[{ accessFlags := 8, nameIndex := 112, descriptorIndex := 113, attributes := #[] }] 49 2 #[185] #[{ accessFlags := 18, nameIndex := 8, descriptorIndex := 40, attributes := #[] }, { accessFlags := 25, nameIndex := 187, descriptorIndex := 188, attributes := #[] }, { accessFlags := 26, nameIndex := 191, descriptorIndex := 192, attributes := #[] }, { accessFlags := 26, nameIndex := 194, descriptorIndex := 40, attributes := #[] }])
  fields := #[{ name := "name", type := (.object "java/lang/String"), accessFlags := 18, slot := 0, constantValue := 0 }, { name := "MAX_BYTES", type := .int, accessFlags := 25, slot := 0, constantValue := 0 }, { name := "QUOTE", type := .char, accessFlags := 26, slot := 1, constantValue := 0 }, { name := "DOUBLED_QUOTE", type := (.object "java/lang/String"), accessFlags := 26, slot := 2, constantValue := 0 }]
  methods := #[k4m0]
  instanceTypes := #[(.object "java/lang/String")]
  staticTypes := #[.int, .char, (.object "java/lang/String")]
  resolved := Array.replicate 240 none
  statics := none }

def pool5 : Array CpInfo := pool [(1, u "java/lang/Cloneable"), (0, .class_ 1), (0, u "java/lang/Object"), (0, .class_ 3)] 3

/-- java/lang/Cloneable -/
def k5 : Class := { plain "java/lang/Cloneable" (some 0) with
  accessFlags := 1537
  interfaces := #[]
  cf := some (fileOf pool5 2 #[] #[] 1537 4 #[] #[])
  fields := #[]
  methods := #[]
  instanceTypes := #[]
  staticTypes := #[]
  resolved := Array.replicate 8 none
  statics := none }

def pool6 : Array CpInfo := pool [(1, u "java/io/Serializable"), (0, .class_ 1), (0, u "java/lang/Object"), (0, .class_ 3)] 3

/-- java/io/Serializable -/
def k6 : Class := { plain "java/io/Serializable" (some 0) with
  accessFlags := 1537
  interfaces := #[]
  cf := some (fileOf pool6 2 #[] #[] 1537 4 #[] #[])
  fields := #[]
  methods := #[]
  instanceTypes := #[]
  staticTypes := #[]
  resolved := Array.replicate 8 none
  statics := none }

/-- the primitive byte -/
def k7 : Class := { plain "byte" none with kind := .primitive 'B', accessFlags := 0x411 }
/-- [B -/
def k8 : Class := { plain "[B" (some 0) with kind := .array 7 .byte, interfaces := #[5, 6], accessFlags := 1041 }

def heap : Heap := #[]
def classes : Array Class := #[k0, k1, k2, k3, k4, k5, k6, k7, k8]
def interned : List (Array UInt16 × Addr) := []
def slotsUsed : Nat := 0
def theMethod : MethodId := ⟨1, 2⟩
def args0 : Array Value := #[.int 65]
def aboutOver (below : List Frame) : State where
  vm := { classes := classes, interned := interned.toArray }
  heap := heap
  slotsUsed := slotsUsed
  threads := #[{ frames := .invoking theMethod args0 :: below }]
def below0 : List Frame := [.native { method := ⟨0, 0⟩, args := #[] }]
def about1 : State := aboutOver below0
def p0 : Program := .bare "" "" ""
def e0 : Env := launch0.env 0 0 0
theorem w_frames : about1.frames = Frame.invoking theMethod args0 :: below0 := rfl
set_option maxRecDepth 65536 in
theorem w_args : argsFit about1.vm theMethod args0 = true := by decide +kernel
set_option maxRecDepth 65536 in
theorem w_heap : heapFits about1 = true := by decide +kernel
set_option maxRecDepth 65536 in
theorem w_runnable : about1.curStatus? = some .runnable := by decide +kernel
set_option maxRecDepth 65536 in
theorem w_alone : about1.alone = true := by decide +kernel
set_option maxRecDepth 65536 in
theorem w_named : about1.methodNamed? x = some theMethod := by decide +kernel
set_option maxRecDepth 65536 in
theorem w_hears : about1.hears theMethod below0 = true := by decide +kernel
set_option maxRecDepth 65536 in
theorem w_ripe : about1.ripe theMethod args0 below0 = true := by decide +kernel
theorem w_running : about1.status = .running := rfl
set_option maxRecDepth 65536 in
theorem w_room : about1.hasRoom e0.platform room_1 = true :=
  launch0.hasRoom_least _ room_1 (by decide +kernel) (by decide +kernel) (by decide +kernel) (by decide +kernel) (by decide +kernel) (by decide +kernel)
theorem allAtoms_all (ts : List Jvm.Cond) (a : Array Jvm.Value) (st : Jvm.State) : (allAtoms ts).before a st = ts.all (fun c => c.before a st) := by
  induction ts with
  | nil => rfl
  | cons c t ih =>
    show (Jvm.Cond.and c (allAtoms t)).before a st = _
    rw [Jvm.Cond.before_and, ih, List.all_cons]
def words1 : List Jvm.Cond := Jvm.Cond.code x code maxLocals ret :: tables_1
/-- a 'code' word, met by the world's own term for the bytes: nothing is compared byte by byte -/
theorem code_word {y : MethodName} {bytes : ByteArray} {mx : Nat} {rt : Option FieldType} {a : Array Value} {s : State} {m : MethodId} {meth : Method} {c : Code} (h1 : s.methodNamed? y = some m) (h2 : s.vm.method? m = some meth) (h3 : meth.code = some c) (h4 : c.code = bytes)
    (h5 : (c.maxLocals == mx && c.exceptionTable.isEmpty && decide (c.maxStack ≤ mostOperands) && decide (meth.sig.returnType = rt) && !meth.locks && decide (parseMethodDescriptor y.desc = some meth.sig)) = true) : (Jvm.Cond.code y bytes mx rt).before a s = true := by
  simp only [Bool.and_eq_true, beq_iff_eq, Bool.not_eq_true', decide_eq_true_eq] at h5
  obtain ⟨⟨⟨⟨⟨g1, g2⟩, g3⟩, g4⟩, g5⟩, g6⟩ := h5
  simp [Cond.before, Cond.holds, Cond.value, h1, h2, h3, h4, g1, g2, g3, g4, g5, g6]
def isCode : Jvm.Cond → Bool
  | .code _ _ _ _ => true
  | _ => false
theorem all_split {L : List Jvm.Cond} {P : Jvm.Cond → Bool} (h1 : L.all (fun c => isCode c || P c) = true) (h2 : ∀ c ∈ L.filter isCode, P c = true) : L.all P = true := by
  refine List.all_eq_true.mpr fun c hc => ?_
  have h := List.all_eq_true.mp h1 c hc
  rcases Bool.eq_false_or_eq_true (isCode c) with hi | hi
  · exact h2 c (List.mem_filter.mpr ⟨hc, hi⟩)
  · simpa [hi] using h
set_option maxRecDepth 65536 in
theorem w_c0 : (Jvm.Cond.code x code maxLocals ret).before args0 about1 = true := code_word (m := ⟨1, 2⟩) (meth := k1m2) (c := k1c2) (by decide +kernel) rfl rfl rfl (by decide +kernel)
set_option maxRecDepth 65536 in
theorem w_c1 : (Jvm.Cond.code ({ cls := "com/example/meerkat/meerkat/Identifier", name := "startsUnquoted", desc := "(I)Z" } : Jvm.MethodName) prog_5_method_9_code (1 : Nat) (Option.some Jvm.ClassFile.FieldType.boolean)).before args0 about1 = true := code_word (m := ⟨4, 0⟩) (meth := k4m0) (c := k4c0) (by decide +kernel) rfl rfl rfl (by decide +kernel)
set_option maxRecDepth 65536 in
theorem w_c2 : (Jvm.Cond.code ({ cls := "com/example/meerkat/meerkat/IdentifierStartsUnquotedPinLaw", name := "expected", desc := "(I)Z" } : Jvm.MethodName) method_2_code (2 : Nat) (Option.some Jvm.ClassFile.FieldType.boolean)).before args0 about1 = true := code_word (m := ⟨1, 1⟩) (meth := k1m1) (c := k1c1) (by decide +kernel) rfl rfl rfl (by decide +kernel)
def codes1 : List Jvm.Cond := [Jvm.Cond.code x code maxLocals ret, Jvm.Cond.code ({ cls := "com/example/meerkat/meerkat/Identifier", name := "startsUnquoted", desc := "(I)Z" } : Jvm.MethodName) prog_5_method_9_code (1 : Nat) (Option.some Jvm.ClassFile.FieldType.boolean), Jvm.Cond.code ({ cls := "com/example/meerkat/meerkat/IdentifierStartsUnquotedPinLaw", name := "expected", desc := "(I)Z" } : Jvm.MethodName) method_2_code (2 : Nat) (Option.some Jvm.ClassFile.FieldType.boolean)]
set_option maxRecDepth 65536 in
theorem codes_eq : words1.filter isCode = codes1 := rfl
theorem w_codes : ∀ c ∈ words1.filter isCode, c.before args0 about1 = true := by
  rw [codes_eq]
  intro c hc
  simp only [codes1, List.mem_cons, List.not_mem_nil, or_false] at hc
  rcases hc with rfl | rfl | rfl
  · exact w_c0
  · exact w_c1
  · exact w_c2
set_option maxRecDepth 65536 in
theorem w_t1 : words1.all (fun c => isCode c || c.before args0 about1) = true := by decide +kernel
theorem w_tables : (allAtoms (Jvm.Cond.code x code maxLocals ret :: tables_1)).before args0 about1 = true := by
  rw [allAtoms_all]
  show words1.all (fun c => c.before args0 about1) = true
  refine all_split ?_ w_codes
  rw [w_t1]
set_option maxRecDepth 65536 in
theorem w_case : (Jvm.Cond.and given_1 narrow_1).before args0 about1 = true := by decide +kernel
theorem w_applies : (headSpec (Jvm.Cond.code x code maxLocals ret :: tables_1) room_1).applies x e0.platform about1 = true :=
  (Spec.applies_iff w_frames).mpr ⟨w_running, w_runnable, w_alone, w_named, w_hears, w_ripe, w_room, w_tables⟩
theorem atStart : AtStart classFile x code maxLocals ret World_1 tables_1 room_1 Calls_1 rest_1 Pre_1 launch0 p0 e0 about1 theMethod args0 below0 :=
  ⟨lists_1, trivial, launch0.admits_env _ _ _, launch0.least_env, fairChoices_fair.cas, fairChoices_fair.clock, w_frames, w_args, w_heap, w_applies, trivial, trivial, w_case⟩
end start1
theorem witness_1 : WitnessClaimed_1 := ⟨start1.p0, start1.e0, start1.about1, start1.theMethod, start1.args0, start1.below0, start1.atStart⟩
end Jvm.Pilot.@@N@@
