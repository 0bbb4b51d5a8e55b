import JvmDerived
import JvmDerived.Pilot.@@N@@Statement
import JvmDerived.Pilot.@@N@@Code
set_option linter.unusedVariables false
set_option linter.unusedSimpArgs false
namespace Jvm.RoadKit
open Sem ClassFile Op Lib Jvm.Stand Jvm.Free Jvm.LawKit
section New
variable {p : Program} {l : Launch} {e : Env} {R : Room} {s : State} {m : MethodId} {args : Array Value} {below : List Frame} {meth : Method} {c : Code} {T : State} {locs : List Loc} {cells slots : Nat}
theorem retI (X : Stand p l e R s m args below meth c T locs cells slots) (hx : p.tables.exec = Jvm.exec) {pc : Nat} {Ls : Array Slot} {z : Int32} {rest : List Value} (hret : meth.sig.returnType = some .int) (hd : decode c.code pc = .ok (.ireturn, 1)) {fs : List Frame}
    (hl : ∀ (f : JFrame) (acts : List Action), f.method = m → f.locked = none → f.entered = [] → (doReturn e (T.setTop f) acts (some (.int z))).1 = T.setFrames fs) : Steps p.tables e below (T.setTop (mkF m pc Ls (.int z :: rest))) (T.setFrames fs) := by
  have hm' : T.vm.method? m = some meth := X.method'
  have hn : narrow .int (.int z) = .int z := rfl
  show Steps p.tables e below (T.setTop { method := m, pc := pc, locals := Ls, stack := _ :: rest, locked := none }) _
  jvm_step X.here [X.here.top, hx, hd, hm', hret, hn]
  first | (intro acts; rw [hl _ acts rfl rfl rfl]) | rw [hl _ _ rfl rfl rfl]
  exact Steps.refl _
end New
end Jvm.RoadKit
namespace Jvm.Pilot.@@N@@
open Jvm Jvm.ClassFile Sem Op Lib Jvm.Free Jvm.Stand Jvm.LawKit Jvm.RoadKit Bundle Jvm.Pilot.@@N@@.Jvm.D
/-- from Y the run comes to an end of which Q tells -/
def own_G (FE : State → Outcome → State → List Loc → Nat → Nat → Prop) (p : Program) (e : Env) (below : List Frame) (s : State) (C S : Nat) (Q : Option Value → Heap → List Loc → Prop) (Y : State) : Prop :=
  ∃ s₂ o, Steps p.tables e below Y s₂ ∧ s₂.status = .running ∧ Ended s₂ below o ∧ ∃ v L, o = .returned v ∧ Q v s₂.heap L ∧ FE s o s₂ L C S
theorem own_go {FE : State → Outcome → State → List Loc → Nat → Nat → Prop} {p : Program} {e : Env} {below : List Frame} {s : State} {C S : Nat} {Q : Option Value → Heap → List Loc → Prop} {Y Y' : State} (k : own_G FE p e below s C S Q Y') (h : ∀ target, Steps p.tables e below Y' target → Steps p.tables e below Y target) : own_G FE p e below s C S Q Y :=
  let ⟨s₂, o, h1, r⟩ := k; ⟨s₂, o, h _ h1, r⟩
theorem d1_0 : decode prog_6_method_2_code 0 = .ok (.iload_n 0, 1) := by decide +kernel
theorem d1_1 : decode prog_6_method_2_code 1 = .ok (.bipush 34, 2) := by decide +kernel
theorem d1_3 : decode prog_6_method_2_code 3 = .ok (.if_icmp .eq 15, 3) := by decide +kernel
theorem d1_6 : decode prog_6_method_2_code 6 = .ok (.iload_n 0, 1) := by decide +kernel
theorem d1_7 : decode prog_6_method_2_code 7 = .ok (.bipush 13, 2) := by decide +kernel
theorem d1_9 : decode prog_6_method_2_code 9 = .ok (.if_icmp .eq 9, 3) := by decide +kernel
theorem d1_12 : decode prog_6_method_2_code 12 = .ok (.iload_n 0, 1) := by decide +kernel
theorem d1_13 : decode prog_6_method_2_code 13 = .ok (.bipush 10, 2) := by decide +kernel
theorem d1_15 : decode prog_6_method_2_code 15 = .ok (.if_icmp .ne 32, 3) := by decide +kernel
theorem d1_47 : decode prog_6_method_2_code 47 = .ok (.return_, 1) := by decide +kernel
theorem pn_1 : plainName "com/example/ninkasi/ninkasi/csv/CsvRecordWriter" = true := by first | (simp [plainName, overriddenIn]; done) | decide +kernel
theorem ef_1 (m : MethodId) (x0 : Int32) : entryFrame m #[(.int x0)] 1 = mkF m 0 #[iv x0] [] := by first | (simp [entryFrame, mkF, argsToLocals, Value.category]; done) | rfl
def Q_rm1 (Z : State) (p1 : Int32) (h0 : Heap) (n0 : Nat) : Option Value → Heap → List Loc → Prop := fun v h L => v = none ∧ Fr n0 L ∧ h = h0
set_option maxRecDepth 65536 in
set_option maxHeartbeats 40000000 in
theorem rm1 (l : Launch) (Z : State) (a0 : Array Value) (hw : ∀ d ∈ tables_1, d.before a0 Z = true) (ws : List Jvm.Cond) (p1 : Int32) (h0 : Heap) (n0 : Nat) (Z0 : n0 ≤ h0.size) (hc3 : ¬ (p1 = (34 : Int32))) (hc9 : ¬ (p1 = (13 : Int32))) (hc15 : ¬ (p1 = (10 : Int32))) :
    MetFree l (⟨"com/example/ninkasi/ninkasi/csv/CsvRecordWriter", "checkDelimiter", "(C)V"⟩ : MethodName) (head1 (Jvm.Cond.code (⟨"com/example/ninkasi/ninkasi/csv/CsvRecordWriter", "checkDelimiter", "(C)V"⟩ : MethodName) prog_6_method_2_code 1 none :: ws) ({ frames := 0, cells := 0, slots := 0, locals := 0 } : Room)) (fun a U => a = #[(.int p1)] ∧ Z.Warmed39 U.vm ∧ U.heap = h0) (fun _ _ _ _ _ => True) (fun _ U o U' => ∃ v L, o = .returned v ∧ (Q_rm1 Z p1 h0 n0) v U'.heap L ∧ FrameEnd U o U' L ({ frames := 0, cells := 0, slots := 0, locals := 0 } : Room).cells ({ frames := 0, cells := 0, slots := 0, locals := 0 } : Room).slots) := by
  refine MetFree.of_bodySF (plainFor_of_name pn_1) hisR ?_
  intro p e s m args below meth c s₁ Bd hml0 hP hK
  obtain ⟨rfl, hZ, hh⟩ := hP
  have hx := Bd.exec
  have hby := Bd.bytes
  have hml : c.maxLocals = 1 := hml0
  have hown : s.vm.findClass "com/example/ninkasi/ninkasi/csv/CsvRecordWriter" = some m.cls := findClass_of_methodNamed Bd.named
  have hnm := (name_of_methodNamed Bd.named Bd.method).1
  have X0 : Stand p l e ({ frames := 0, cells := 0, slots := 0, locals := 0 } : Room) s m #[(.int p1)] below meth c s₁ [] 0 0 := Stand.of_body Bd
  have e0 : s₁.heap = h0 := by rw [← hh, Bd.state]; rfl
  have N0 := Fr.nil n0
  show own_G FrameEnd p e below s ({ frames := 0, cells := 0, slots := 0, locals := 0 } : Room).cells ({ frames := 0, cells := 0, slots := 0, locals := 0 } : Room).slots (Q_rm1 Z p1 h0 n0) (s₁.setTop (entryFrame m #[(.int p1)] 1))
  refine own_go (Y' := s₁.setTop (mkF m 0 #[iv p1] [])) ?_ (fun t k => castTop (ef_1 m p1) k)
  refine own_go ?_ (fun target hr => XS.iloadN X0.here hx rfl (hb hby d1_0) rfl (XS.bipush X0.here hx rfl (hb hby d1_1) (XS.icmpNo X0.here hx rfl (hb hby d1_3) rfl (feq hc3).1 (XS.iloadN X0.here hx rfl (hb hby d1_6) rfl (XS.bipush X0.here hx rfl (hb hby d1_7) (XS.icmpNo X0.here hx rfl (hb hby d1_9) rfl (feq hc9).1 (XS.iloadN X0.here hx rfl (hb hby d1_12) rfl (XS.bipush X0.here hx rfl (hb hby d1_13) hr))))))))
  show own_G _ p e below s _ _ _ (s₁.setTop (mkF m 15 #[iv p1] [(.int (10 : Int32)), (.int p1)]))
  refine own_go ?_ (fun target hr => XS.icmpYes X0.here hx rfl (pc0 := 15) (pc' := 47) rfl (hb hby d1_15) rfl (feq hc15).2 (by decide) (by decide) hr)
  show own_G _ p e below s _ _ _ (s₁.setTop (mkF m 47 #[iv p1] []))
  obtain ⟨fs, hr, hrun, hended, hW, hsame⟩ := X0.leave (v := none) (fun _ => rfl)
  exact ⟨_, _, X0.returnOut hx Bd.returns (hb hby d1_47) hr, hrun, hended, _, _, rfl, ⟨rfl, N0, e0⟩, ⟨_, rfl⟩, hW, hsame.mono (by decide) (by decide)⟩
theorem pn_0 : plainName "com/example/ninkasi/ninkasi/csv/CsvRecordWriterCheckDelimiterPinLaw" = true := by first | (simp [plainName, overriddenIn]; done) | decide +kernel
theorem pd__C_V : parseMethodDescriptor "(C)V" = some ⟨[.char], none⟩ := by decide +kernel
theorem ef_0 (m : MethodId) (x0 : Int32) : entryFrame m #[(.int x0)] maxLocals = mkF m 0 #[iv x0, .unset] [] := by first | (simp [entryFrame, mkF, argsToLocals, Value.category, maxLocals]; done) | rfl
def f0 (p1 : Int32) : Int32 := (if ((p1 &&& (65535 : Int32)).toUInt32.toUInt16.toUInt32.toInt32) = (34 : Int32) then (1 : Int32) else (if ((p1 &&& (65535 : Int32)).toUInt32.toUInt16.toUInt32.toInt32) = (13 : Int32) then (1 : Int32) else (if ((p1 &&& (65535 : Int32)).toUInt32.toUInt16.toUInt32.toInt32) = (10 : Int32) then (1 : Int32) else (1 : Int32))))
def Q_rm0 (Z : State) (p1 : Int32) (h0 : Heap) (n0 : Nat) : Option Value → Heap → List Loc → Prop := fun v h L => v = some (.int (f0 p1)) ∧ Fr n0 L ∧ h = h0
set_option maxRecDepth 65536 in
set_option maxHeartbeats 40000000 in
theorem rm0 (l : Launch) (Z : State) (a0 : Array Value) (hw : ∀ d ∈ tables_1, d.before a0 Z = true) (ws : List Jvm.Cond) (p1 : Int32) (h0 : Heap) (n0 : Nat) (Z0 : n0 ≤ h0.size) :
    MetFree l x (head1 (Jvm.Cond.code x code maxLocals ret :: ws) room_1) (fun a U => a = #[(.int p1)] ∧ Z.Warmed39 U.vm ∧ U.heap = h0) (fun _ _ _ _ _ => True) (fun _ U o U' => ∃ v L, o = .returned v ∧ (Q_rm0 Z p1 h0 n0) v U'.heap L ∧ FrameEnd U o U' L room_1.cells room_1.slots) := by
  refine MetFree.of_bodySF (plainFor_of_name pn_0) hisR ?_
  intro p e s m args below meth c s₁ Bd hml0 hP hK
  obtain ⟨rfl, hZ, hh⟩ := hP
  have hx := Bd.exec
  have hby := Bd.bytes
  have hml : c.maxLocals = 2 := hml0
  have hown : s.vm.findClass "com/example/ninkasi/ninkasi/csv/CsvRecordWriterCheckDelimiterPinLaw" = some m.cls := findClass_of_methodNamed Bd.named
  have hnm := (name_of_methodNamed Bd.named Bd.method).1
  have X0 : Stand p l e room_1 s m #[(.int p1)] below meth c s₁ [] 0 0 := Stand.of_body Bd
  have e0 : s₁.heap = h0 := by rw [← hh, Bd.state]; rfl
  have N0 := Fr.nil n0
  show own_G FrameEnd p e below s room_1.cells room_1.slots (Q_rm0 Z p1 h0 n0) (s₁.setTop (entryFrame m #[(.int p1)] maxLocals))
  refine own_go (Y' := s₁.setTop (mkF m 0 #[iv p1, .unset] [])) ?_ (fun t k => castTop (ef_0 m p1) k)
  refine own_go ?_ (fun target hr => XS.iloadN X0.here hx rfl (hb hby at_0) rfl (X0.ldcI hx hown (mvT hZ (hw _ (List.mem_of_getElem? (i := 0) rfl))) rfl (hb hby at_1) (XS.iand X0.here hx rfl (hb hby at_3) rfl (XS.i2c X0.here hx rfl (hb hby at_4) rfl (XS.istoreN X0.here hx rfl (hb hby at_5) rfl (l' := #[iv p1, iv ((p1 &&& (65535 : Int32)).toUInt32.toUInt16.toUInt32.toInt32)]) rfl (XS.iloadN X0.here hx rfl (hb hby at_6) rfl (XS.bipush X0.here hx rfl (hb hby at_7) hr)))))))
  show own_G _ p e below s _ _ _ (s₁.setTop (mkF m 9 #[iv p1, iv ((p1 &&& (65535 : Int32)).toUInt32.toUInt16.toUInt32.toInt32)] [(.int (34 : Int32)), (.int ((p1 &&& (65535 : Int32)).toUInt32.toUInt16.toUInt32.toInt32))]))
  by_cases hc9 : ((p1 &&& (65535 : Int32)).toUInt32.toUInt16.toUInt32.toInt32) = (34 : Int32)
  ·
    refine own_go ?_ (fun target hr => XS.icmpYes X0.here hx rfl (pc0 := 9) (pc' := 24) rfl (hb hby at_9) rfl (teq hc9).1 (by decide) (by decide) (XS.iconst X0.here hx rfl (hb hby at_24) hr))
    show own_G _ p e below s _ _ _ (s₁.setTop (mkF m 25 #[iv p1, iv ((p1 &&& (65535 : Int32)).toUInt32.toUInt16.toUInt32.toInt32)] [(.int (1 : Int32))]))
    obtain ⟨fs, hr, hrun, hended, hW, hsame⟩ := X0.leave (v := some (.int (1 : Int32))) (fun h => by rw [Bd.returns] at h; cases h)
    exact ⟨_, _, retN X0 hx (t := .boolean) Bd.returns (by simp) (hb hby at_25) hr, hrun, hended, _, _, rfl, ⟨(by unfold f0; rw [if_pos hc9]), N0, e0⟩, ⟨_, rfl⟩, hW, hsame.mono (by decide) (by decide)⟩
  ·
    refine own_go ?_ (fun target hr => XS.icmpNo X0.here hx rfl (hb hby at_9) rfl (feq hc9).1 (XS.iloadN X0.here hx rfl (hb hby at_12) rfl (XS.bipush X0.here hx rfl (hb hby at_13) hr)))
    show own_G _ p e below s _ _ _ (s₁.setTop (mkF m 15 #[iv p1, iv ((p1 &&& (65535 : Int32)).toUInt32.toUInt16.toUInt32.toInt32)] [(.int (13 : Int32)), (.int ((p1 &&& (65535 : Int32)).toUInt32.toUInt16.toUInt32.toInt32))]))
    by_cases hc15 : ((p1 &&& (65535 : Int32)).toUInt32.toUInt16.toUInt32.toInt32) = (13 : Int32)
    ·
      refine own_go ?_ (fun target hr => XS.icmpYes X0.here hx rfl (pc0 := 15) (pc' := 24) rfl (hb hby at_15) rfl (teq hc15).1 (by decide) (by decide) (XS.iconst X0.here hx rfl (hb hby at_24) hr))
      show own_G _ p e below s _ _ _ (s₁.setTop (mkF m 25 #[iv p1, iv ((p1 &&& (65535 : Int32)).toUInt32.toUInt16.toUInt32.toInt32)] [(.int (1 : Int32))]))
      obtain ⟨fs, hr, hrun, hended, hW, hsame⟩ := X0.leave (v := some (.int (1 : Int32))) (fun h => by rw [Bd.returns] at h; cases h)
      exact ⟨_, _, retN X0 hx (t := .boolean) Bd.returns (by simp) (hb hby at_25) hr, hrun, hended, _, _, rfl, ⟨(by unfold f0; rw [if_neg hc9, if_pos hc15]), N0, e0⟩, ⟨_, rfl⟩, hW, hsame.mono (by decide) (by decide)⟩
    ·
      refine own_go ?_ (fun target hr => XS.icmpNo X0.here hx rfl (hb hby at_15) rfl (feq hc15).1 (XS.iloadN X0.here hx rfl (hb hby at_18) rfl (XS.bipush X0.here hx rfl (hb hby at_19) hr)))
      show own_G _ p e below s _ _ _ (s₁.setTop (mkF m 21 #[iv p1, iv ((p1 &&& (65535 : Int32)).toUInt32.toUInt16.toUInt32.toInt32)] [(.int (10 : Int32)), (.int ((p1 &&& (65535 : Int32)).toUInt32.toUInt16.toUInt32.toInt32))]))
      by_cases hc21 : ((p1 &&& (65535 : Int32)).toUInt32.toUInt16.toUInt32.toInt32) = (10 : Int32)
      ·
        refine own_go ?_ (fun target hr => XS.icmpNo X0.here hx rfl (hb hby at_21) rfl (teq hc21).2 (XS.iconst X0.here hx rfl (hb hby at_24) hr))
        show own_G _ p e below s _ _ _ (s₁.setTop (mkF m 25 #[iv p1, iv ((p1 &&& (65535 : Int32)).toUInt32.toUInt16.toUInt32.toInt32)] [(.int (1 : Int32))]))
        obtain ⟨fs, hr, hrun, hended, hW, hsame⟩ := X0.leave (v := some (.int (1 : Int32))) (fun h => by rw [Bd.returns] at h; cases h)
        exact ⟨_, _, retN X0 hx (t := .boolean) Bd.returns (by simp) (hb hby at_25) hr, hrun, hended, _, _, rfl, ⟨(by unfold f0; rw [if_neg hc9, if_neg hc15, if_pos hc21]), N0, e0⟩, ⟨_, rfl⟩, hW, hsame.mono (by decide) (by decide)⟩
      ·
        refine own_go ?_ (fun target hr => XS.icmpYes X0.here hx rfl (pc0 := 21) (pc' := 26) rfl (hb hby at_21) rfl (feq hc21).2 (by decide) (by decide) (XS.iloadN X0.here hx rfl (hb hby at_26) rfl hr))
        show own_G _ p e below s _ _ _ (s₁.setTop (mkF m 27 #[iv p1, iv ((p1 &&& (65535 : Int32)).toUInt32.toUInt16.toUInt32.toInt32)] [(.int ((p1 &&& (65535 : Int32)).toUInt32.toUInt16.toUInt32.toInt32))]))
        obtain ⟨_, _, ⟨T1, L1, k1, n1⟩, -, X1, ⟨Lc1, hQ1, l1, y1, z1⟩, st1⟩ := Jvm.LawKit.callS X0 hx (y := (⟨"com/example/ninkasi/ninkasi/csv/CsvRecordWriter", "checkDelimiter", "(C)V"⟩ : MethodName)) hown (mvT hZ (hw _ (List.mem_of_getElem? (i := 1) rfl))) (mvT hZ (hw _ (List.mem_of_getElem? (i := 2) rfl))) (mvT hZ (hw _ (List.mem_of_getElem? (i := 3) rfl))) (mvT hZ (hw _ (List.mem_of_getElem? (i := 4) rfl))) (by decide) (backOf (W := 0) (rm1 l Z a0 hw [] ((p1 &&& (65535 : Int32)).toUInt32.toUInt16.toUInt32.toInt32) h0 n0 Z0 hc9 hc15 hc21) hZ (hw _ (List.mem_of_getElem? (i := 4) rfl)) (hw _ (List.mem_of_getElem? (i := 3) rfl)) (by decide) (by decide)) (g := (mkF m 27 #[iv p1, iv ((p1 &&& (65535 : Int32)).toUInt32.toUInt16.toUInt32.toInt32)] [(.int ((p1 &&& (65535 : Int32)).toUInt32.toUInt16.toUInt32.toInt32))])) rfl (by rw [hml]; rfl) (argsL := [(.int ((p1 &&& (65535 : Int32)).toUInt32.toUInt16.toUInt32.toInt32))]) (rest := []) (lenOf pd__C_V rfl) rfl (by show 2 * 0 + _ ≤ _; exact Nat.le_of_eq rfl) (hb hby at_27) (fun _ _ => ⟨rfl, e0, (by decide : 0 + 0 ≤ _), (by decide : 0 + 0 ≤ _)⟩)
        dsimp only [Pt.U, Pt.locs, Pt.cells, Pt.slots] at X1 l1 y1 z1 st1 hQ1
        subst l1 y1 z1
        obtain ⟨rfl, N1q, e1⟩ := hQ1
        have N1 := Fr.app N0 N1q
        refine own_go ?_ (fun target hr => st1 _ (XS.iconst X1.here hx rfl (hb hby at_30) hr))
        show own_G _ p e below s _ _ _ (T1.setTop (mkF m 31 #[iv p1, iv ((p1 &&& (65535 : Int32)).toUInt32.toUInt16.toUInt32.toInt32)] [(.int (1 : Int32))]))
        obtain ⟨fs, hr, hrun, hended, hW, hsame⟩ := X1.leave (v := some (.int (1 : Int32))) (fun h => by rw [Bd.returns] at h; cases h)
        exact ⟨_, _, retN X1 hx (t := .boolean) Bd.returns (by simp) (hb hby at_31) hr, hrun, hended, _, _, rfl, ⟨(by unfold f0; rw [if_neg hc9, if_neg hc15, if_neg hc21]), N1, e1⟩, ⟨_, rfl⟩, hW, hsame.mono (by decide) (by decide)⟩
theorem own_plain (x : Int32) : f0 x = 1 := by
  unfold f0
  repeat' split
  all_goals rfl
set_option maxRecDepth 65536 in
set_option maxHeartbeats 40000000 in
theorem comes_1 {Post : Tables → Env → Array Value → State → Outcome → State → Prop} (hpost : ∀ tb e args s v u, (limb_1_1.after args s (.returned v) u = true ∧ limb_1_2.after args s (.returned v) u = true ∧ True) → FrameEnd s (.returned v) u (Jvm.fieldLocs frame_1_writes args s ++ Jvm.arrayLocs frame_1_arrays args s ++ Jvm.staticLocs frame_1_statics s) 0 0 → Post tb e args s (.returned v) u) :
    ArmFor flags0 classFile x code maxLocals ret World_1 tables_1 room_1 Calls_1 rest_1 Pre_1 Post := by
  intro l hfl _ _ p e ha hc hk s m args below hf hA hF happ hP
  obtain ⟨hcalls, hrest, hpre⟩ := hP
  obtain ⟨-, -, -, hnamed, -, -, -, hat⟩ := (Spec.applies_iff hf).mp happ
  obtain ⟨hg, hn⟩ := and_e (Cond.before_iff.mp (show (Jvm.Cond.and given_1 narrow_1).before args s = true from hpre))
  obtain ⟨h1, g0⟩ := and_e hg
  obtain ⟨w0, rfl⟩ : ∃ w0 : Value, args = #[w0] := by
    have hs : args.size = 1 := by simpa [Cond.value, given_1] using h1
    obtain ⟨L⟩ := args
    match L, hs with
    | [w0], _ => exact ⟨w0, rfl⟩
  have hw := fun d (hd : d ∈ tables_1) => atoms_spec (ws := Jvm.Cond.code x code maxLocals ret :: tables_1) hat d (List.mem_cons_of_mem _ hd)
  have hfit : Fit s := fun {y c} hc i hi => by
    obtain ⟨ha, rfl⟩ := Array.getElem?_eq_some_iff.mp hc
    have q := List.all_eq_true.mp ((Array.all_eq_true_iff_forall_mem.mp hF) _ (Array.getElem_mem ha)) i (List.mem_range.mpr hi)
    simpa [Array.getElem?_eq_getElem hi] using q
  obtain ⟨i0, ev0⟩ := is_v g0
  obtain rfl : w0 = (.int i0) := Option.some.inj ev0
  obtain ⟨n, o, h1, h2, h3, _, L, rfl, ⟨rfl, N, _⟩, hq⟩ := rm0 l s _ hw tables_1 i0 s.heap s.heap.size (Nat.le_refl _)  p e ha hc hk s m _ below hf ((Spec.applies_iff_loose hf).mp happ).1 ⟨rfl, State.Warmed39.refl s, rfl⟩ trivial
  refine ⟨n, _, h1, h2, h3, hpost _ _ _ _ _ _ ⟨Cond.after_iff.mpr rfl, Cond.after_iff.mpr (eq_i res_at (Term.int_eval (1)) (congrArg Value.int (own_plain i0))), trivial⟩ ⟨hq.1, hq.2.1, (hq.2.2.sift fun y hy => Or.inr (N y hy)).mono (by decide) (by decide)⟩⟩
theorem main_1_1 : Claimed_1_1 := comes_1 fun _ _ _ _ _ _ h hF => ⟨h.1, hF⟩
theorem main_1_2 : Claimed_1_2 := comes_1 fun _ _ _ _ _ _ h hF => ⟨h.2.1, hF⟩
end Jvm.Pilot.@@N@@
namespace Jvm.Pilot.@@N@@
open Jvm Jvm.ClassFile Sem Op Lib Jvm.Free Jvm.Stand Jvm.Pilot.@@N@@.Jvm.D
/-! MADE BY PROGRAM (witnessworld.py) out of the Statement's table words and the real class files: 10 classes; the members and pool entries that the words name. The judged class is class 1, her method 1. -/
namespace start1
open Jvm.ClassFile
def u (s : String) : CpInfo := .utf8 (stringToUtf16 s)
/-- a pool by its gaps: so many unusable entries, then the entry; so many at the end -/
def gap : Nat → List CpInfo → List CpInfo
  | 0, r => r
  | n + 1, r => .unusable :: gap n r
def poolList (es : List (Nat × CpInfo)) (last : Nat) : List CpInfo := es.foldr (fun e r => gap e.1 (e.2 :: r)) (gap last [])
def pool (es : List (Nat × CpInfo)) (last : Nat) : Array CpInfo := ⟨poolList es last⟩
def fileOf (pool : Array CpInfo) (this : Nat) (attrs : Array Attribute := #[]) (ms : Array MethodInfo := #[]) (fl : Nat := 33) (sup : Nat := 0) (ifs : Array Nat := #[]) (fds : Array FieldInfo := #[]) : ClassFile where
  minorVersion := 0
  majorVersion := 65
  constantPool := pool
  accessFlags := fl
  thisClass := this
  superClass := sup
  interfaces := ifs
  fields := fds
  methods := ms
  attributes := attrs
def plain (name : String) (sup : Option ClassId) : Class where
  name := name
  kind := .ordinary
  loader := none
  accessFlags := 33
  super := sup
  interfaces := #[]
  cf := none
  fields := #[]
  methods := #[]
  instanceTypes := #[]
  staticTypes := #[]
  resolved := #[]
  callSites := []
  init := .initialized
  statics := none
  mirror := none

def pool0 : Array CpInfo := pool [(5, u "<init>"), (0, u "()V"), (1, .class_ 10), (1, u "java/lang/Object")] 113

def k0m0 : Method := { name := "<init>", desc := "()V", sig := { parameters := [], returnType := none }, accessFlags := 1, code := none }
/-- java/lang/Object -/
def k0 : Class := { plain "java/lang/Object" none with
  accessFlags := 33
  interfaces := #[]
  cf := some (fileOf pool0 8 #[] #[{ accessFlags := 1, nameIndex := 5, descriptorIndex := 6, attributes := #[] }] 33 0 #[] #[])
  fields := #[]
  methods := #[k0m0]
  instanceTypes := #[]
  staticTypes := #[]
  resolved := Array.replicate 124 none
  statics := none }

def pool1 : Array CpInfo := pool [(2, .class_ 4), (1, u "java/lang/Object"), (0, u "<init>"), (0, u "()V"), (0, .integer 65535), (0, .methodref 9 10), (0, .class_ 11), (0, .nameAndType 12 13), (0, u "com/example/ninkasi/ninkasi/csv/CsvRecordWriter"), (0, u "checkDelimiter"), (0, u "(C)V"), (0, .class_ 15), (0, u "com/example/ninkasi/ninkasi/csv/CsvRecordWriterCheckDelimiterPinLaw"), (2, u "law"), (0, u "(I)Z")] 3

def k1m0 : Method := { name := "<init>", desc := "()V", sig := { parameters := [], returnType := none }, accessFlags := 1, code := none }
def k1c1 : Code := { maxStack := 2, maxLocals := 2, code := code, exceptionTable := #[], attributes := #[] }
def k1m1 : Method := { name := "law", desc := "(I)Z", sig := { parameters := [.int], returnType := some .boolean }, accessFlags := 9, code := some k1c1 }
/-- com/example/ninkasi/ninkasi/csv/CsvRecordWriterCheckDelimiterPinLaw -/
def k1 : Class := { plain "com/example/ninkasi/ninkasi/csv/CsvRecordWriterCheckDelimiterPinLaw" (some 0) with
  accessFlags := 49
  interfaces := #[]
  cf := some (fileOf pool1 14 #[] #[{ accessFlags := 1, nameIndex := 5, descriptorIndex := 6, attributes := #[] }, { accessFlags := 9, nameIndex := 18, descriptorIndex := 19, attributes := #[] }] 49 2 #[] #[])
  fields := #[]
  methods := #[k1m0, k1m1]
  instanceTypes := #[]
  staticTypes := #[]
  resolved := Array.replicate 23 none
  statics := none }

def pool2 : Array CpInfo := pool [(1, .class_ 2), (0, u "java/lang/AutoCloseable"), (0, .class_ 4), (0, u "java/lang/Object")] 7

/-- java/lang/AutoCloseable -/
def k2 : Class := { plain "java/lang/AutoCloseable" (some 0) with
  accessFlags := 1537
  interfaces := #[]
  cf := some (fileOf pool2 1 #[] #[] 1537 3 #[] #[])
  fields := #[]
  methods := #[]
  instanceTypes := #[]
  staticTypes := #[]
  resolved := Array.replicate 12 none
  statics := none }

def pool3 : Array CpInfo := pool [(1, .class_ 2), (0, u "java/io/Closeable"), (0, .class_ 4), (0, u "java/lang/Object"), (0, .class_ 6), (0, u "java/lang/AutoCloseable")] 7

/-- java/io/Closeable -/
def k3 : Class := { plain "java/io/Closeable" (some 0) with
  accessFlags := 1537
  interfaces := #[2]
  cf := some (fileOf pool3 1 #[] #[] 1537 3 #[5] #[])
  fields := #[]
  methods := #[]
  instanceTypes := #[]
  staticTypes := #[]
  resolved := Array.replicate 14 none
  statics := none }

def pool4 : Array CpInfo := pool [(1, .class_ 2), (0, u "java/io/Flushable"), (0, .class_ 4), (0, u "java/lang/Object")] 7

/-- java/io/Flushable -/
def k4 : Class := { plain "java/io/Flushable" (some 0) with
  accessFlags := 1537
  interfaces := #[]
  cf := some (fileOf pool4 1 #[] #[] 1537 3 #[] #[])
  fields := #[]
  methods := #[]
  instanceTypes := #[]
  staticTypes := #[]
  resolved := Array.replicate 12 none
  statics := none }

def pool5 : Array CpInfo := pool [(2, .class_ 4), (1, u "java/lang/Object"), (15, .class_ 22), (1, u "com/example/ninkasi/ninkasi/csv/CsvRecordWriter"), (0, u "utf8"), (0, u "Ljava/nio/charset/CharsetEncoder;"), (5, u "line"), (0, u "Ljava/lang/StringBuilder;"), (2, u "checkDelimiter"), (0, u "(C)V"), (3, u "out"), (14, u "Ljava/io/OutputStream;"), (2, u "delimiter"), (0, u "C"), (73, u "position"), (9, u "J"), (20, .class_ 164), (0, u "java/io/Closeable"), (0, .class_ 166), (0, u "java/io/Flushable"), (0, u "BUFFER_SIZE"), (0, u "I")] 29

def k5c0 : Code := { maxStack := 7, maxLocals := 1, code := prog_6_method_2_code, exceptionTable := #[], attributes := #[] }
def k5m0 : Method := { name := "checkDelimiter", desc := "(C)V", sig := { parameters := [.char], returnType := none }, accessFlags := 9, code := some k5c0 }
/-- com/example/ninkasi/ninkasi/csv/CsvRecordWriter -/
def k5 : Class := { plain "com/example/ninkasi/ninkasi/csv/CsvRecordWriter" (some 0) with
  accessFlags := 33
  interfaces := #[3, 4]
  cf := some (fileOf pool5 20 #[] #[{ accessFlags := 9, nameIndex := 34, descriptorIndex := 35, attributes := #[] }] 33 2 #[163, 165] #[{ accessFlags := 26, nameIndex := 167, descriptorIndex := 168, attributes := #[] }, { accessFlags := 18, nameIndex := 39, descriptorIndex := 54, attributes := #[] }, { accessFlags := 18, nameIndex := 57, descriptorIndex := 58, attributes := #[] }, { accessFlags := 18, nameIndex := 23, descriptorIndex := 24, attributes := #[] }, { accessFlags := 18, nameIndex := 30, descriptorIndex := 31, attributes := #[] }, { accessFlags := 2, nameIndex := 132, descriptorIndex := 142, attributes := #[] }])
  fields := #[{ name := "BUFFER_SIZE", type := .int, accessFlags := 26, slot := 0, constantValue := 0 }, { name := "out", type := (.object "java/io/OutputStream"), accessFlags := 18, slot := 0, constantValue := 0 }, { name := "delimiter", type := .char, accessFlags := 18, slot := 1, constantValue := 0 }, { name := "utf8", type := (.object "java/nio/charset/CharsetEncoder"), accessFlags := 18, slot := 2, constantValue := 0 }, { name := "line", type := (.object "java/lang/StringBuilder"), accessFlags := 18, slot := 3, constantValue := 0 }, { name := "position", type := .long, accessFlags := 2, slot := 4, constantValue := 0 }]
  methods := #[k5m0]
  instanceTypes := #[(.object "java/io/OutputStream"), .char, (.object "java/nio/charset/CharsetEncoder"), (.object "java/lang/StringBuilder"), .long]
  staticTypes := #[.int]
  resolved := Array.replicate 198 none
  statics := none }

def pool6 : Array CpInfo := pool [(1, u "java/lang/Cloneable"), (0, .class_ 1), (0, u "java/lang/Object"), (0, .class_ 3)] 3

/-- java/lang/Cloneable -/
def k6 : Class := { plain "java/lang/Cloneable" (some 0) with
  accessFlags := 1537
  interfaces := #[]
  cf := some (fileOf pool6 2 #[] #[] 1537 4 #[] #[])
  fields := #[]
  methods := #[]
  instanceTypes := #[]
  staticTypes := #[]
  resolved := Array.replicate 8 none
  statics := none }

def pool7 : Array CpInfo := pool [(1, u "java/io/Serializable"), (0, .class_ 1), (0, u "java/lang/Object"), (0, .class_ 3)] 3

/-- java/io/Serializable -/
def k7 : Class := { plain "java/io/Serializable" (some 0) with
  accessFlags := 1537
  interfaces := #[]
  cf := some (fileOf pool7 2 #[] #[] 1537 4 #[] #[])
  fields := #[]
  methods := #[]
  instanceTypes := #[]
  staticTypes := #[]
  resolved := Array.replicate 8 none
  statics := none }

/-- the primitive byte -/
def k8 : Class := { plain "byte" none with kind := .primitive 'B', accessFlags := 0x411 }
/-- [B -/
def k9 : Class := { plain "[B" (some 0) with kind := .array 8 .byte, interfaces := #[6, 7], accessFlags := 1041 }

def heap : Heap := #[]
def classes : Array Class := #[k0, k1, k2, k3, k4, k5, k6, k7, k8, k9]
def interned : List (Array UInt16 × Addr) := []
def slotsUsed : Nat := 0
def theMethod : MethodId := ⟨1, 1⟩
def args0 : Array Value := #[.int 65]
def aboutOver (below : List Frame) : State where
  vm := { classes := classes, interned := interned.toArray }
  heap := heap
  slotsUsed := slotsUsed
  threads := #[{ frames := .invoking theMethod args0 :: below }]
def below0 : List Frame := [.native { method := ⟨0, 0⟩, args := #[] }]
def about1 : State := aboutOver below0
def p0 : Program := .bare "" "" ""
def e0 : Env := launch0.env 0 0 0
theorem w_frames : about1.frames = Frame.invoking theMethod args0 :: below0 := rfl
set_option maxRecDepth 65536 in
theorem w_args : argsFit about1.vm theMethod args0 = true := by decide +kernel
set_option maxRecDepth 65536 in
theorem w_heap : heapFits about1 = true := by decide +kernel
set_option maxRecDepth 65536 in
theorem w_runnable : about1.curStatus? = some .runnable := by decide +kernel
set_option maxRecDepth 65536 in
theorem w_alone : about1.alone = true := by decide +kernel
set_option maxRecDepth 65536 in
theorem w_named : about1.methodNamed? x = some theMethod := by decide +kernel
set_option maxRecDepth 65536 in
theorem w_hears : about1.hears theMethod below0 = true := by decide +kernel
set_option maxRecDepth 65536 in
theorem w_ripe : about1.ripe theMethod args0 below0 = true := by decide +kernel
theorem w_running : about1.status = .running := rfl
set_option maxRecDepth 65536 in
theorem w_room : about1.hasRoom e0.platform room_1 = true :=
  launch0.hasRoom_least _ room_1 (by decide +kernel) (by decide +kernel) (by decide +kernel) (by decide +kernel) (by decide +kernel) (by decide +kernel)
theorem allAtoms_all (ts : List Jvm.Cond) (a : Array Jvm.Value) (st : Jvm.State) : (allAtoms ts).before a st = ts.all (fun c => c.before a st) := by
  induction ts with
  | nil => rfl
  | cons c t ih =>
    show (Jvm.Cond.and c (allAtoms t)).before a st = _
    rw [Jvm.Cond.before_and, ih, List.all_cons]
def words1 : List Jvm.Cond := Jvm.Cond.code x code maxLocals ret :: tables_1
/-- a 'code' word, met by the world's own term for the bytes: nothing is compared byte by byte -/
theorem code_word {y : MethodName} {bytes : ByteArray} {mx : Nat} {rt : Option FieldType} {a : Array Value} {s : State} {m : MethodId} {meth : Method} {c : Code} (h1 : s.methodNamed? y = some m) (h2 : s.vm.method? m = some meth) (h3 : meth.code = some c) (h4 : c.code = bytes)
    (h5 : (c.maxLocals == mx && c.exceptionTable.isEmpty && decide (c.maxStack ≤ mostOperands) && decide (meth.sig.returnType = rt) && !meth.locks && decide (parseMethodDescriptor y.desc = some meth.sig)) = true) : (Jvm.Cond.code y bytes mx rt).before a s = true := by
  simp only [Bool.and_eq_true, beq_iff_eq, Bool.not_eq_true', decide_eq_true_eq] at h5
  obtain ⟨⟨⟨⟨⟨g1, g2⟩, g3⟩, g4⟩, g5⟩, g6⟩ := h5
  simp [Cond.before, Cond.holds, Cond.value, h1, h2, h3, h4, g1, g2, g3, g4, g5, g6]
def isCode : Jvm.Cond → Bool
  | .code _ _ _ _ => true
  | _ => false
theorem all_split {L : List Jvm.Cond} {P : Jvm.Cond → Bool} (h1 : L.all (fun c => isCode c || P c) = true) (h2 : ∀ c ∈ L.filter isCode, P c = true) : L.all P = true := by
  refine List.all_eq_true.mpr fun c hc => ?_
  have h := List.all_eq_true.mp h1 c hc
  rcases Bool.eq_false_or_eq_true (isCode c) with hi | hi
  · exact h2 c (List.mem_filter.mpr ⟨hc, hi⟩)
  · simpa [hi] using h
set_option maxRecDepth 65536 in
theorem w_c0 : (Jvm.Cond.code x code maxLocals ret).before args0 about1 = true := code_word (m := ⟨1, 1⟩) (meth := k1m1) (c := k1c1) (by decide +kernel) rfl rfl rfl (by decide +kernel)
set_option maxRecDepth 65536 in
theorem w_c1 : (Jvm.Cond.code ({ cls := "com/example/ninkasi/ninkasi/csv/CsvRecordWriter", name := "checkDelimiter", desc := "(C)V" } : Jvm.MethodName) prog_6_method_2_code (1 : Nat) (Option.none : Option Jvm.ClassFile.FieldType)).before args0 about1 = true := code_word (m := ⟨5, 0⟩) (meth := k5m0) (c := k5c0) (by decide +kernel) rfl rfl rfl (by decide +kernel)
def codes1 : List Jvm.Cond := [Jvm.Cond.code x code maxLocals ret, Jvm.Cond.code ({ cls := "com/example/ninkasi/ninkasi/csv/CsvRecordWriter", name := "checkDelimiter", desc := "(C)V" } : Jvm.MethodName) prog_6_method_2_code (1 : Nat) (Option.none : Option Jvm.ClassFile.FieldType)]
set_option maxRecDepth 65536 in
theorem codes_eq : words1.filter isCode = codes1 := rfl
theorem w_codes : ∀ c ∈ words1.filter isCode, c.before args0 about1 = true := by
  rw [codes_eq]
  intro c hc
  simp only [codes1, List.mem_cons, List.not_mem_nil, or_false] at hc
  rcases hc with rfl | rfl
  · exact w_c0
  · exact w_c1
set_option maxRecDepth 65536 in
theorem w_t1 : words1.all (fun c => isCode c || c.before args0 about1) = true := by decide +kernel
theorem w_tables : (allAtoms (Jvm.Cond.code x code maxLocals ret :: tables_1)).before args0 about1 = true := by
  rw [allAtoms_all]
  show words1.all (fun c => c.before args0 about1) = true
  refine all_split ?_ w_codes
  rw [w_t1]
set_option maxRecDepth 65536 in
theorem w_case : (Jvm.Cond.and given_1 narrow_1).before args0 about1 = true := by decide +kernel
theorem w_applies : (headSpec (Jvm.Cond.code x code maxLocals ret :: tables_1) room_1).applies x e0.platform about1 = true :=
  (Spec.applies_iff w_frames).mpr ⟨w_running, w_runnable, w_alone, w_named, w_hears, w_ripe, w_room, w_tables⟩
theorem atStart : AtStart classFile x code maxLocals ret World_1 tables_1 room_1 Calls_1 rest_1 Pre_1 launch0 p0 e0 about1 theMethod args0 below0 :=
  ⟨lists_1, trivial, launch0.admits_env _ _ _, launch0.least_env, fairChoices_fair.cas, fairChoices_fair.clock, w_frames, w_args, w_heap, w_applies, trivial, trivial, w_case⟩
end start1
theorem witness_1 : WitnessClaimed_1 := ⟨start1.p0, start1.e0, start1.about1, start1.theMethod, start1.args0, start1.below0, start1.atStart⟩
end Jvm.Pilot.@@N@@
