import JvmDerived
import JvmDerived.Pilot.@@N@@Statement
import JvmDerived.Pilot.@@N@@Code
set_option linter.unusedVariables false
set_option linter.unusedSimpArgs false
namespace Jvm.RoadKit
open Sem ClassFile Op Lib Jvm.Stand Jvm.Free Jvm.LawKit
section New
variable {p : Program} {l : Launch} {e : Env} {R : Room} {s : State} {m : MethodId} {args : Array Value} {below : List Frame} {meth : Method} {c : Code} {T : State} {locs : List Loc} {cells slots : Nat}
theorem retI (X : Stand p l e R s m args below meth c T locs cells slots) (hx : p.tables.exec = Jvm.exec) {pc : Nat} {Ls : Array Slot} {z : Int32} {rest : List Value} (hret : meth.sig.returnType = some .int) (hd : decode c.code pc = .ok (.ireturn, 1)) {fs : List Frame}
    (hl : ∀ (f : JFrame) (acts : List Action), f.method = m → f.locked = none → f.entered = [] → (doReturn e (T.setTop f) acts (some (.int z))).1 = T.setFrames fs) : Steps p.tables e below (T.setTop (mkF m pc Ls (.int z :: rest))) (T.setFrames fs) := by
  have hm' : T.vm.method? m = some meth := X.method'
  have hn : narrow .int (.int z) = .int z := rfl
  show Steps p.tables e below (T.setTop { method := m, pc := pc, locals := Ls, stack := _ :: rest, locked := none }) _
  jvm_step X.here [X.here.top, hx, hd, hm', hret, hn]
  first | (intro acts; rw [hl _ acts rfl rfl rfl]) | rw [hl _ _ rfl rfl rfl]
  exact Steps.refl _
end New
end Jvm.RoadKit
namespace Jvm.Pilot.@@N@@
open Jvm Jvm.ClassFile Sem Op Lib Jvm.Free Jvm.Stand Jvm.LawKit Jvm.RoadKit Bundle Jvm.Pilot.@@N@@.Jvm.D
/-- from Y the run comes to an end of which Q tells -/
def own_G (FE : State → Outcome → State → List Loc → Nat → Nat → Prop) (p : Program) (e : Env) (below : List Frame) (s : State) (C S : Nat) (Q : Option Value → Heap → List Loc → Prop) (Y : State) : Prop :=
  ∃ s₂ o, Steps p.tables e below Y s₂ ∧ s₂.status = .running ∧ Ended s₂ below o ∧ ∃ v L, o = .returned v ∧ Q v s₂.heap L ∧ FE s o s₂ L C S
theorem own_go {FE : State → Outcome → State → List Loc → Nat → Nat → Prop} {p : Program} {e : Env} {below : List Frame} {s : State} {C S : Nat} {Q : Option Value → Heap → List Loc → Prop} {Y Y' : State} (k : own_G FE p e below s C S Q Y') (h : ∀ target, Steps p.tables e below Y' target → Steps p.tables e below Y target) : own_G FE p e below s C S Q Y :=
  let ⟨s₂, o, h1, r⟩ := k; ⟨s₂, o, h _ h1, r⟩
theorem d5_0 : decode jdk_29_method_27_code 0 = .ok (.lload_n 0, 1) := by decide +kernel
theorem d5_1 : decode jdk_29_method_27_code 1 = .ok (.lload_n 2, 1) := by decide +kernel
theorem d5_2 : decode jdk_29_method_27_code 2 = .ok (.lsub, 1) := by decide +kernel
theorem d5_3 : decode jdk_29_method_27_code 3 = .ok (.lstore 4, 2) := by decide +kernel
theorem d5_5 : decode jdk_29_method_27_code 5 = .ok (.lload_n 0, 1) := by decide +kernel
theorem d5_6 : decode jdk_29_method_27_code 6 = .ok (.lload_n 2, 1) := by decide +kernel
theorem d5_7 : decode jdk_29_method_27_code 7 = .ok (.lxor, 1) := by decide +kernel
theorem d5_8 : decode jdk_29_method_27_code 8 = .ok (.lload_n 0, 1) := by decide +kernel
theorem d5_9 : decode jdk_29_method_27_code 9 = .ok (.lload 4, 2) := by decide +kernel
theorem d5_11 : decode jdk_29_method_27_code 11 = .ok (.lxor, 1) := by decide +kernel
theorem d5_12 : decode jdk_29_method_27_code 12 = .ok (.land, 1) := by decide +kernel
theorem d5_13 : decode jdk_29_method_27_code 13 = .ok (.lconst 0, 1) := by decide +kernel
theorem d5_14 : decode jdk_29_method_27_code 14 = .ok (.lcmp, 1) := by decide +kernel
theorem d5_15 : decode jdk_29_method_27_code 15 = .ok (.ifCond .ge 13, 3) := by decide +kernel
theorem d5_28 : decode jdk_29_method_27_code 28 = .ok (.lload 4, 2) := by decide +kernel
theorem d5_30 : decode jdk_29_method_27_code 30 = .ok (.lreturn, 1) := by decide +kernel
theorem ef_5 (m : MethodId) (x0 : Int64) (x1 : Int64) : entryFrame m #[(.long x0), (.long x1)] 6 = mkF m 0 #[.val (.long x0), .second, .val (.long x1), .second, .unset, .unset] [] := by first | (simp [entryFrame, mkF, argsToLocals, Value.category]; done) | rfl
def Q_rm5 (Z : State) (q1 : Int64) (q2 : Int64) (h0 : Heap) (n0 : Nat) : Option Value → Heap → List Loc → Prop := fun v h L => v = some (.long (q1 - q2)) ∧ Fr n0 L ∧ h = h0
set_option maxRecDepth 65536 in
set_option maxHeartbeats 40000000 in
theorem rm5 (l : Launch) (Z : State) (a0 : Array Value) (hw : ∀ d ∈ tables_1, d.before a0 Z = true) (ws : List Jvm.Cond) (q1 : Int64) (q2 : Int64) (h0 : Heap) (n0 : Nat) (Z0 : n0 ≤ h0.size) (hs : ¬ (((q1 ^^^ q2) &&& (q1 ^^^ (q1 - q2))) < (0 : Int64))) :
    MetFree l (⟨"java/lang/Math", "subtractExact", "(JJ)J"⟩ : MethodName) (head1 (Jvm.Cond.code (⟨"java/lang/Math", "subtractExact", "(JJ)J"⟩ : MethodName) jdk_29_method_27_code 6 (some .long) :: ws) ({ frames := 0, cells := 0, slots := 0, locals := 0 } : Room)) (fun a U => a = #[(.long q1), (.long q2)] ∧ Z.Warmed39 U.vm ∧ U.heap = h0) (fun _ _ _ _ _ => True) (fun _ U o U' => ∃ v L, o = .returned v ∧ (Q_rm5 Z q1 q2 h0 n0) v U'.heap L ∧ FrameEnd U o U' L ({ frames := 0, cells := 0, slots := 0, locals := 0 } : Room).cells ({ frames := 0, cells := 0, slots := 0, locals := 0 } : Room).slots) := by
  refine MetFree.of_bodySF (Jvm.Free.JP.mathPlain rfl (by decide +kernel)) hisR ?_
  intro p e s m args below meth c s₁ Bd hml0 hP hK
  obtain ⟨rfl, hZ, hh⟩ := hP
  have hx := Bd.exec
  have hby := Bd.bytes
  have hml : c.maxLocals = 6 := hml0
  have hown : s.vm.findClass "java/lang/Math" = some m.cls := findClass_of_methodNamed Bd.named
  have hnm := (name_of_methodNamed Bd.named Bd.method).1
  have X0 : Stand p l e ({ frames := 0, cells := 0, slots := 0, locals := 0 } : Room) s m #[(.long q1), (.long q2)] below meth c s₁ [] 0 0 := Stand.of_body Bd
  have e0 : s₁.heap = h0 := by rw [← hh, Bd.state]; rfl
  have N0 := Fr.nil n0
  show own_G FrameEnd p e below s ({ frames := 0, cells := 0, slots := 0, locals := 0 } : Room).cells ({ frames := 0, cells := 0, slots := 0, locals := 0 } : Room).slots (Q_rm5 Z q1 q2 h0 n0) (s₁.setTop (entryFrame m #[(.long q1), (.long q2)] 6))
  refine own_go (Y' := s₁.setTop (mkF m 0 #[.val (.long q1), .second, .val (.long q2), .second, .unset, .unset] [])) ?_ (fun t k => castTop (ef_5 m q1 q2) k)
  refine own_go ?_ (fun target hr => XS.lloadN X0.here hx rfl (hb hby d5_0) rfl (XS.lloadN X0.here hx rfl (hb hby d5_1) rfl (XS.lsub X0.here hx rfl (hb hby d5_2) rfl (XS.lstore X0.here hx rfl (hb hby d5_3) rfl (l' := #[.val (.long q1), .second, .val (.long q2), .second, .val (.long (q1 - q2)), .second]) rfl (XS.lloadN X0.here hx rfl (hb hby d5_5) rfl (XS.lloadN X0.here hx rfl (hb hby d5_6) rfl (XS.lxor X0.here hx rfl (hb hby d5_7) rfl (XS.lloadN X0.here hx rfl (hb hby d5_8) rfl hr))))))))
  show own_G _ p e below s _ _ _ (s₁.setTop (mkF m 9 #[.val (.long q1), .second, .val (.long q2), .second, .val (.long (q1 - q2)), .second] [(.long q1), (.long (q1 ^^^ q2))]))
  refine own_go ?_ (fun target hr => XS.lload X0.here hx rfl (hb hby d5_9) rfl (XS.lxor X0.here hx rfl (hb hby d5_11) rfl (XS.land X0.here hx rfl (hb hby d5_12) rfl (XS.lconst X0.here hx rfl (hb hby d5_13) (XS.lcmp X0.here hx rfl (hb hby d5_14) rfl (XS.ifYes X0.here hx rfl (pc0 := 15) (pc' := 28) rfl (hb hby d5_15) rfl ((if0 _ _).trans (flt (fun q => hs ((lw_lt ((q1 ^^^ q2) &&& (q1 ^^^ (q1 - q2))) (0 : Int64)).mp q))).2.1) (by decide) (by decide) (XS.lload X0.here hx rfl (hb hby d5_28) rfl hr)))))))
  show own_G _ p e below s _ _ _ (s₁.setTop (mkF m 30 #[.val (.long q1), .second, .val (.long q2), .second, .val (.long (q1 - q2)), .second] [(.long (q1 - q2))]))
  obtain ⟨fs, hr, hrun, hended, hW, hsame⟩ := X0.leave (v := some (.long (q1 - q2))) (fun h => by rw [Bd.returns] at h; cases h)
  exact ⟨_, _, X0.lreturnOut hx Bd.returns (hb hby d5_30) hr, hrun, hended, _, _, rfl, ⟨rfl, N0, e0⟩, ⟨_, rfl⟩, hW, hsame.mono (by decide) (by decide)⟩
theorem d6_0 : decode jdk_29_method_25_code 0 = .ok (.lload_n 0, 1) := by decide +kernel
theorem d6_1 : decode jdk_29_method_25_code 1 = .ok (.lload_n 2, 1) := by decide +kernel
theorem d6_2 : decode jdk_29_method_25_code 2 = .ok (.ladd, 1) := by decide +kernel
theorem d6_3 : decode jdk_29_method_25_code 3 = .ok (.lstore 4, 2) := by decide +kernel
theorem d6_5 : decode jdk_29_method_25_code 5 = .ok (.lload_n 0, 1) := by decide +kernel
theorem d6_6 : decode jdk_29_method_25_code 6 = .ok (.lload 4, 2) := by decide +kernel
theorem d6_8 : decode jdk_29_method_25_code 8 = .ok (.lxor, 1) := by decide +kernel
theorem d6_9 : decode jdk_29_method_25_code 9 = .ok (.lload_n 2, 1) := by decide +kernel
theorem d6_10 : decode jdk_29_method_25_code 10 = .ok (.lload 4, 2) := by decide +kernel
theorem d6_12 : decode jdk_29_method_25_code 12 = .ok (.lxor, 1) := by decide +kernel
theorem d6_13 : decode jdk_29_method_25_code 13 = .ok (.land, 1) := by decide +kernel
theorem d6_14 : decode jdk_29_method_25_code 14 = .ok (.lconst 0, 1) := by decide +kernel
theorem d6_15 : decode jdk_29_method_25_code 15 = .ok (.lcmp, 1) := by decide +kernel
theorem d6_16 : decode jdk_29_method_25_code 16 = .ok (.ifCond .ge 13, 3) := by decide +kernel
theorem d6_29 : decode jdk_29_method_25_code 29 = .ok (.lload 4, 2) := by decide +kernel
theorem d6_31 : decode jdk_29_method_25_code 31 = .ok (.lreturn, 1) := by decide +kernel
theorem ef_6 (m : MethodId) (x0 : Int64) (x1 : Int64) : entryFrame m #[(.long x0), (.long x1)] 6 = mkF m 0 #[.val (.long x0), .second, .val (.long x1), .second, .unset, .unset] [] := by first | (simp [entryFrame, mkF, argsToLocals, Value.category]; done) | rfl
def Q_rm6 (Z : State) (q1 : Int64) (q2 : Int64) (h0 : Heap) (n0 : Nat) : Option Value → Heap → List Loc → Prop := fun v h L => v = some (.long (q1 + q2)) ∧ Fr n0 L ∧ h = h0
set_option maxRecDepth 65536 in
set_option maxHeartbeats 40000000 in
theorem rm6 (l : Launch) (Z : State) (a0 : Array Value) (hw : ∀ d ∈ tables_1, d.before a0 Z = true) (ws : List Jvm.Cond) (q1 : Int64) (q2 : Int64) (h0 : Heap) (n0 : Nat) (Z0 : n0 ≤ h0.size) (ha : ¬ (((q1 ^^^ (q1 + q2)) &&& (q2 ^^^ (q1 + q2))) < (0 : Int64))) :
    MetFree l (⟨"java/lang/Math", "addExact", "(JJ)J"⟩ : MethodName) (head1 (Jvm.Cond.code (⟨"java/lang/Math", "addExact", "(JJ)J"⟩ : MethodName) jdk_29_method_25_code 6 (some .long) :: ws) ({ frames := 0, cells := 0, slots := 0, locals := 0 } : Room)) (fun a U => a = #[(.long q1), (.long q2)] ∧ Z.Warmed39 U.vm ∧ U.heap = h0) (fun _ _ _ _ _ => True) (fun _ U o U' => ∃ v L, o = .returned v ∧ (Q_rm6 Z q1 q2 h0 n0) v U'.heap L ∧ FrameEnd U o U' L ({ frames := 0, cells := 0, slots := 0, locals := 0 } : Room).cells ({ frames := 0, cells := 0, slots := 0, locals := 0 } : Room).slots) := by
  refine MetFree.of_bodySF (Jvm.Free.JP.mathPlain rfl (by decide +kernel)) hisR ?_
  intro p e s m args below meth c s₁ Bd hml0 hP hK
  obtain ⟨rfl, hZ, hh⟩ := hP
  have hx := Bd.exec
  have hby := Bd.bytes
  have hml : c.maxLocals = 6 := hml0
  have hown : s.vm.findClass "java/lang/Math" = some m.cls := findClass_of_methodNamed Bd.named
  have hnm := (name_of_methodNamed Bd.named Bd.method).1
  have X0 : Stand p l e ({ frames := 0, cells := 0, slots := 0, locals := 0 } : Room) s m #[(.long q1), (.long q2)] below meth c s₁ [] 0 0 := Stand.of_body Bd
  have e0 : s₁.heap = h0 := by rw [← hh, Bd.state]; rfl
  have N0 := Fr.nil n0
  show own_G FrameEnd p e below s ({ frames := 0, cells := 0, slots := 0, locals := 0 } : Room).cells ({ frames := 0, cells := 0, slots := 0, locals := 0 } : Room).slots (Q_rm6 Z q1 q2 h0 n0) (s₁.setTop (entryFrame m #[(.long q1), (.long q2)] 6))
  refine own_go (Y' := s₁.setTop (mkF m 0 #[.val (.long q1), .second, .val (.long q2), .second, .unset, .unset] [])) ?_ (fun t k => castTop (ef_6 m q1 q2) k)
  refine own_go ?_ (fun target hr => XS.lloadN X0.here hx rfl (hb hby d6_0) rfl (XS.lloadN X0.here hx rfl (hb hby d6_1) rfl (XS.ladd X0.here hx rfl (hb hby d6_2) rfl (XS.lstore X0.here hx rfl (hb hby d6_3) rfl (l' := #[.val (.long q1), .second, .val (.long q2), .second, .val (.long (q1 + q2)), .second]) rfl (XS.lloadN X0.here hx rfl (hb hby d6_5) rfl (XS.lload X0.here hx rfl (hb hby d6_6) rfl (XS.lxor X0.here hx rfl (hb hby d6_8) rfl (XS.lloadN X0.here hx rfl (hb hby d6_9) rfl hr))))))))
  show own_G _ p e below s _ _ _ (s₁.setTop (mkF m 10 #[.val (.long q1), .second, .val (.long q2), .second, .val (.long (q1 + q2)), .second] [(.long q2), (.long (q1 ^^^ (q1 + q2)))]))
  refine own_go ?_ (fun target hr => XS.lload X0.here hx rfl (hb hby d6_10) rfl (XS.lxor X0.here hx rfl (hb hby d6_12) rfl (XS.land X0.here hx rfl (hb hby d6_13) rfl (XS.lconst X0.here hx rfl (hb hby d6_14) (XS.lcmp X0.here hx rfl (hb hby d6_15) rfl (XS.ifYes X0.here hx rfl (pc0 := 16) (pc' := 29) rfl (hb hby d6_16) rfl ((if0 _ _).trans (flt (fun q => ha ((lw_lt ((q1 ^^^ (q1 + q2)) &&& (q2 ^^^ (q1 + q2))) (0 : Int64)).mp q))).2.1) (by decide) (by decide) (XS.lload X0.here hx rfl (hb hby d6_29) rfl hr)))))))
  show own_G _ p e below s _ _ _ (s₁.setTop (mkF m 31 #[.val (.long q1), .second, .val (.long q2), .second, .val (.long (q1 + q2)), .second] [(.long (q1 + q2))]))
  obtain ⟨fs, hr, hrun, hended, hW, hsame⟩ := X0.leave (v := some (.long (q1 + q2))) (fun h => by rw [Bd.returns] at h; cases h)
  exact ⟨_, _, X0.lreturnOut hx Bd.returns (hb hby d6_31) hr, hrun, hended, _, _, rfl, ⟨rfl, N0, e0⟩, ⟨_, rfl⟩, hW, hsame.mono (by decide) (by decide)⟩
theorem d1_0 : decode prog_10_method_2_code 0 = .ok (.aload_n 0, 1) := by decide +kernel
theorem d1_1 : decode prog_10_method_2_code 1 = .ok (.invokespecial 7, 3) := by decide +kernel
theorem d1_4 : decode prog_10_method_2_code 4 = .ok (.aload_n 0, 1) := by decide +kernel
theorem d1_5 : decode prog_10_method_2_code 5 = .ok (.lload_n 1, 1) := by decide +kernel
theorem d1_6 : decode prog_10_method_2_code 6 = .ok (.putfield 12, 3) := by decide +kernel
theorem d1_9 : decode prog_10_method_2_code 9 = .ok (.aload_n 0, 1) := by decide +kernel
theorem d1_10 : decode prog_10_method_2_code 10 = .ok (.lload_n 3, 1) := by decide +kernel
theorem d1_11 : decode prog_10_method_2_code 11 = .ok (.putfield 16, 3) := by decide +kernel
theorem d1_14 : decode prog_10_method_2_code 14 = .ok (.return_, 1) := by decide +kernel
theorem pn_1 : plainName "com/example/prita/prita/arbiter/SimulatedClock" = true := by first | (simp [plainName, overriddenIn]; done) | decide +kernel
theorem ef_1 (m : MethodId) (x0 : Addr) (x1 : Int64) (x2 : Int64) : entryFrame m #[(.ref x0), (.long x1), (.long x2)] 5 = mkF m 0 #[rv x0, .val (.long x1), .second, .val (.long x2), .second] [] := by first | (simp [entryFrame, mkF, argsToLocals, Value.category]; done) | rfl
def Q_rm1 (Z : State) (a1 : Addr) (q2 : Int64) (q3 : Int64) (u1 : Value) (u2 : Value) (h0 : Heap) (n0 : Nat) : Option Value → Heap → List Loc → Prop := fun v h L => v = none ∧ Fr n0 L ∧ Keep h0 h [a1] ∧ Exa Z h a1 "com/example/prita/prita/arbiter/SimulatedClock" ∧ Fld Z h a1 "com/example/prita/prita/arbiter/SimulatedClock" "setAtElapsedMs" "J" (.long q2) ∧ Fld Z h a1 "com/example/prita/prita/arbiter/SimulatedClock" "setToUnixEpochMs" "J" (.long q3)
set_option maxRecDepth 65536 in
set_option maxHeartbeats 40000000 in
theorem rm1 (l : Launch) (Z : State) (a0 : Array Value) (hw : ∀ d ∈ tables_1, d.before a0 Z = true) (ws : List Jvm.Cond) (a1 : Addr) (q2 : Int64) (q3 : Int64) (u1 : Value) (u2 : Value) (h0 : Heap) (n0 : Nat) (Z0 : n0 ≤ h0.size) (E_a1 : Exa Z h0 a1 "com/example/prita/prita/arbiter/SimulatedClock") (F_a1_setAtElapsedMs : Fld Z h0 a1 "com/example/prita/prita/arbiter/SimulatedClock" "setAtElapsedMs" "J" u1) (F_a1_setToUnixEpochMs : Fld Z h0 a1 "com/example/prita/prita/arbiter/SimulatedClock" "setToUnixEpochMs" "J" u2) (g_a1 : n0 ≤ a1) :
    MetFree l (⟨"com/example/prita/prita/arbiter/SimulatedClock", "<init>", "(JJ)V"⟩ : MethodName) (head1 (Jvm.Cond.code (⟨"com/example/prita/prita/arbiter/SimulatedClock", "<init>", "(JJ)V"⟩ : MethodName) prog_10_method_2_code 5 none :: ws) ({ frames := 1, cells := 0, slots := 0, locals := 12 } : Room)) (fun a U => a = #[(.ref a1), (.long q2), (.long q3)] ∧ Z.Warmed39 U.vm ∧ U.heap = h0) (fun _ _ _ _ _ => True) (fun _ U o U' => ∃ v L, o = .returned v ∧ (Q_rm1 Z a1 q2 q3 u1 u2 h0 n0) v U'.heap L ∧ FrameEnd U o U' L ({ frames := 1, cells := 0, slots := 0, locals := 12 } : Room).cells ({ frames := 1, cells := 0, slots := 0, locals := 12 } : Room).slots) := by
  refine MetFree.of_bodySF (plainFor_of_name pn_1) hisR ?_
  intro p e s m args below meth c s₁ Bd hml0 hP hK
  obtain ⟨rfl, hZ, hh⟩ := hP
  have hx := Bd.exec
  have hby := Bd.bytes
  have hml : c.maxLocals = 5 := hml0
  have hown : s.vm.findClass "com/example/prita/prita/arbiter/SimulatedClock" = some m.cls := findClass_of_methodNamed Bd.named
  have hnm := (name_of_methodNamed Bd.named Bd.method).1
  have X0 : Stand p l e ({ frames := 1, cells := 0, slots := 0, locals := 12 } : Room) s m #[(.ref a1), (.long q2), (.long q3)] below meth c s₁ [] 0 0 := Stand.of_body Bd
  have e0 : s₁.heap = h0 := by rw [← hh, Bd.state]; rfl
  have N0 := Fr.nil n0
  show own_G FrameEnd p e below s ({ frames := 1, cells := 0, slots := 0, locals := 12 } : Room).cells ({ frames := 1, cells := 0, slots := 0, locals := 12 } : Room).slots (Q_rm1 Z a1 q2 q3 u1 u2 h0 n0) (s₁.setTop (entryFrame m #[(.ref a1), (.long q2), (.long q3)] 5))
  refine own_go (Y' := s₁.setTop (mkF m 0 #[rv a1, .val (.long q2), .second, .val (.long q3), .second] [])) ?_ (fun t k => castTop (ef_1 m a1 q2 q3) k)
  refine own_go ?_ (fun target hr => XS.aloadN X0.here hx rfl (hb hby d1_0) rfl rfl hr)
  show own_G _ p e below s _ _ _ (s₁.setTop (mkF m 1 #[rv a1, .val (.long q2), .second, .val (.long q3), .second] [(.ref a1)]))
  obtain ⟨T1, X1, e1, st1⟩ := initO X0 hx hZ hown (hw _ (List.mem_of_getElem? (i := 8) rfl)) (hw _ (List.mem_of_getElem? (i := 9) rfl)) (hw _ (List.mem_of_getElem? (i := 10) rfl)) e0 (g := (mkF m 1 #[rv a1, .val (.long q2), .second, .val (.long q3), .second] [(.ref a1)])) rfl (by rw [hml]; rfl) rfl (hb hby d1_1) (by decide) (W := 0) (by show 2 * 0 + _ ≤ _; exact Nat.le_of_eq rfl) (by decide)
  refine own_go ?_ (fun target hr => st1 _ (XS.aloadN X1.here hx rfl (hb hby d1_4) rfl rfl (XS.lloadN X1.here hx rfl (hb hby d1_5) rfl hr)))
  show own_G _ p e below s _ _ _ (T1.setTop (mkF m 6 #[rv a1, .val (.long q2), .second, .val (.long q3), .second] [(.long q2), (.ref a1)]))
  obtain ⟨T2, h2, X2, e2, W2, st2⟩ := putF X1 hx hZ hown (host := "") (Or.inl (hw _ (List.mem_of_getElem? (i := 11) rfl))) Via.refl e1 F_a1_setAtElapsedMs E_a1 (Or.inl (hw _ (List.mem_of_getElem? (i := 12) rfl))) (hw _ (List.mem_of_getElem? (i := 3) rfl)) (ty := .long) (by decide) rfl rfl (g := (mkF m 6 #[rv a1, .val (.long q2), .second, .val (.long q3), .second] [(.long q2), (.ref a1)])) rfl rfl (hb hby d1_6)
  have Fw2 := F_a1_setAtElapsedMs.same W2
  have N2 := Fr.snoc X2 N0 g_a1
  refine own_go ?_ (fun target hr => st2 _ (XS.aloadN X2.here hx rfl (hb hby d1_9) rfl rfl (XS.lloadN X2.here hx rfl (hb hby d1_10) rfl hr)))
  show own_G _ p e below s _ _ _ (T2.setTop (mkF m 11 #[rv a1, .val (.long q2), .second, .val (.long q3), .second] [(.long q3), (.ref a1)]))
  obtain ⟨T3, h3, X3, e3, W3, st3⟩ := putF X2 hx hZ hown (host := "") (Or.inl (hw _ (List.mem_of_getElem? (i := 13) rfl))) Via.refl e2 (F_a1_setToUnixEpochMs.other W2 (Or.inr (slot_ne (Or.inl (hw _ (List.mem_of_getElem? (i := 14) rfl))) (Or.inl (hw _ (List.mem_of_getElem? (i := 12) rfl))) (by decide) (t := .long) (t' := .long) (by decide) (by decide)))) (E_a1.wr W2) (Or.inl (hw _ (List.mem_of_getElem? (i := 14) rfl))) (hw _ (List.mem_of_getElem? (i := 3) rfl)) (ty := .long) (by decide) rfl rfl (g := (mkF m 11 #[rv a1, .val (.long q2), .second, .val (.long q3), .second] [(.long q3), (.ref a1)])) rfl rfl (hb hby d1_11)
  have Fw3 := (F_a1_setToUnixEpochMs.other W2 (Or.inr (slot_ne (Or.inl (hw _ (List.mem_of_getElem? (i := 14) rfl))) (Or.inl (hw _ (List.mem_of_getElem? (i := 12) rfl))) (by decide) (t := .long) (t' := .long) (by decide) (by decide)))).same W3
  have N3 := Fr.snoc X3 N2 g_a1
  refine own_go ?_ (fun target hr => st3 _ hr)
  show own_G _ p e below s _ _ _ (T3.setTop (mkF m 14 #[rv a1, .val (.long q2), .second, .val (.long q3), .second] []))
  obtain ⟨fs, hr, hrun, hended, hW, hsame⟩ := X3.leave (v := none) (fun _ => rfl)
  exact ⟨_, _, X3.returnOut hx Bd.returns (hb hby d1_14) hr, hrun, hended, _, _, rfl, (by rw [show (T3.setFrames fs).heap = h3 from e3]; exact ⟨rfl, N3, (((Keep.refl h0 [a1]).wr W2 (Or.inl (List.mem_of_getElem? (i := 0) rfl))).wr W3 (Or.inl (List.mem_of_getElem? (i := 0) rfl))), ((E_a1.wr W2).wr W3), (Fw2.other W3 (Or.inr (slot_ne (Or.inl (hw _ (List.mem_of_getElem? (i := 12) rfl))) (Or.inl (hw _ (List.mem_of_getElem? (i := 14) rfl))) (by decide) (t := .long) (t' := .long) (by decide) (by decide)))), Fw3⟩), ⟨_, rfl⟩, hW, hsame.mono (by decide) (by decide)⟩
theorem d3_0 : decode prog_10_method_4_code 0 = .ok (.aload_n 0, 1) := by decide +kernel
theorem d3_1 : decode prog_10_method_4_code 1 = .ok (.lload_n 1, 1) := by decide +kernel
theorem d3_2 : decode prog_10_method_4_code 2 = .ok (.putfield 12, 3) := by decide +kernel
theorem d3_5 : decode prog_10_method_4_code 5 = .ok (.aload_n 0, 1) := by decide +kernel
theorem d3_6 : decode prog_10_method_4_code 6 = .ok (.lload 5, 2) := by decide +kernel
theorem d3_8 : decode prog_10_method_4_code 8 = .ok (.putfield 16, 3) := by decide +kernel
theorem d3_11 : decode prog_10_method_4_code 11 = .ok (.iconst 1, 1) := by decide +kernel
theorem d3_12 : decode prog_10_method_4_code 12 = .ok (.ireturn, 1) := by decide +kernel
theorem pn_3 : plainName "com/example/prita/prita/arbiter/SimulatedClock" = true := by first | (simp [plainName, overriddenIn]; done) | decide +kernel
theorem ef_3 (m : MethodId) (x0 : Addr) (x1 : Int64) (x2 : Int64) (x3 : Int64) : entryFrame m #[(.ref x0), (.long x1), (.long x2), (.long x3)] 7 = mkF m 0 #[rv x0, .val (.long x1), .second, .val (.long x2), .second, .val (.long x3), .second] [] := by first | (simp [entryFrame, mkF, argsToLocals, Value.category]; done) | rfl
def Q_rm3 (Z : State) (a1 : Addr) (q2 : Int64) (q3 : Int64) (q4 : Int64) (u1 : Value) (u2 : Value) (h0 : Heap) (n0 : Nat) : Option Value → Heap → List Loc → Prop := fun v h L => v = some (.int (1 : Int32)) ∧ Fr n0 L ∧ Keep h0 h [a1] ∧ Exa Z h a1 "com/example/prita/prita/arbiter/SimulatedClock" ∧ Fld Z h a1 "com/example/prita/prita/arbiter/SimulatedClock" "setAtElapsedMs" "J" (.long q2) ∧ Fld Z h a1 "com/example/prita/prita/arbiter/SimulatedClock" "setToUnixEpochMs" "J" (.long q4)
set_option maxRecDepth 65536 in
set_option maxHeartbeats 40000000 in
theorem rm3 (l : Launch) (Z : State) (a0 : Array Value) (hw : ∀ d ∈ tables_1, d.before a0 Z = true) (ws : List Jvm.Cond) (a1 : Addr) (q2 : Int64) (q3 : Int64) (q4 : Int64) (u1 : Value) (u2 : Value) (h0 : Heap) (n0 : Nat) (Z0 : n0 ≤ h0.size) (E_a1 : Exa Z h0 a1 "com/example/prita/prita/arbiter/SimulatedClock") (F_a1_setAtElapsedMs : Fld Z h0 a1 "com/example/prita/prita/arbiter/SimulatedClock" "setAtElapsedMs" "J" u1) (F_a1_setToUnixEpochMs : Fld Z h0 a1 "com/example/prita/prita/arbiter/SimulatedClock" "setToUnixEpochMs" "J" u2) (g_a1 : n0 ≤ a1) :
    MetFree l (⟨"com/example/prita/prita/arbiter/SimulatedClock", "set", "(JJJ)Z"⟩ : MethodName) (head1 (Jvm.Cond.code (⟨"com/example/prita/prita/arbiter/SimulatedClock", "set", "(JJJ)Z"⟩ : MethodName) prog_10_method_4_code 7 (some .boolean) :: ws) ({ frames := 0, cells := 0, slots := 0, locals := 0 } : Room)) (fun a U => a = #[(.ref a1), (.long q2), (.long q3), (.long q4)] ∧ Z.Warmed39 U.vm ∧ U.heap = h0) (fun _ _ _ _ _ => True) (fun _ U o U' => ∃ v L, o = .returned v ∧ (Q_rm3 Z a1 q2 q3 q4 u1 u2 h0 n0) v U'.heap L ∧ FrameEnd U o U' L ({ frames := 0, cells := 0, slots := 0, locals := 0 } : Room).cells ({ frames := 0, cells := 0, slots := 0, locals := 0 } : Room).slots) := by
  refine MetFree.of_bodySF (plainFor_of_name pn_3) hisR ?_
  intro p e s m args below meth c s₁ Bd hml0 hP hK
  obtain ⟨rfl, hZ, hh⟩ := hP
  have hx := Bd.exec
  have hby := Bd.bytes
  have hml : c.maxLocals = 7 := hml0
  have hown : s.vm.findClass "com/example/prita/prita/arbiter/SimulatedClock" = some m.cls := findClass_of_methodNamed Bd.named
  have hnm := (name_of_methodNamed Bd.named Bd.method).1
  have X0 : Stand p l e ({ frames := 0, cells := 0, slots := 0, locals := 0 } : Room) s m #[(.ref a1), (.long q2), (.long q3), (.long q4)] below meth c s₁ [] 0 0 := Stand.of_body Bd
  have e0 : s₁.heap = h0 := by rw [← hh, Bd.state]; rfl
  have N0 := Fr.nil n0
  show own_G FrameEnd p e below s ({ frames := 0, cells := 0, slots := 0, locals := 0 } : Room).cells ({ frames := 0, cells := 0, slots := 0, locals := 0 } : Room).slots (Q_rm3 Z a1 q2 q3 q4 u1 u2 h0 n0) (s₁.setTop (entryFrame m #[(.ref a1), (.long q2), (.long q3), (.long q4)] 7))
  refine own_go (Y' := s₁.setTop (mkF m 0 #[rv a1, .val (.long q2), .second, .val (.long q3), .second, .val (.long q4), .second] [])) ?_ (fun t k => castTop (ef_3 m a1 q2 q3 q4) k)
  refine own_go ?_ (fun target hr => XS.aloadN X0.here hx rfl (hb hby d3_0) rfl rfl (XS.lloadN X0.here hx rfl (hb hby d3_1) rfl hr))
  show own_G _ p e below s _ _ _ (s₁.setTop (mkF m 2 #[rv a1, .val (.long q2), .second, .val (.long q3), .second, .val (.long q4), .second] [(.long q2), (.ref a1)]))
  obtain ⟨T1, h1, X1, e1, W1, st1⟩ := putF X0 hx hZ hown (host := "") (Or.inl (hw _ (List.mem_of_getElem? (i := 11) rfl))) Via.refl e0 F_a1_setAtElapsedMs E_a1 (Or.inl (hw _ (List.mem_of_getElem? (i := 12) rfl))) (hw _ (List.mem_of_getElem? (i := 3) rfl)) (ty := .long) (by decide) rfl rfl (g := (mkF m 2 #[rv a1, .val (.long q2), .second, .val (.long q3), .second, .val (.long q4), .second] [(.long q2), (.ref a1)])) rfl rfl (hb hby d3_2)
  have Fw1 := F_a1_setAtElapsedMs.same W1
  have N1 := Fr.snoc X1 N0 g_a1
  refine own_go ?_ (fun target hr => st1 _ (XS.aloadN X1.here hx rfl (hb hby d3_5) rfl rfl (XS.lload X1.here hx rfl (hb hby d3_6) rfl hr)))
  show own_G _ p e below s _ _ _ (T1.setTop (mkF m 8 #[rv a1, .val (.long q2), .second, .val (.long q3), .second, .val (.long q4), .second] [(.long q4), (.ref a1)]))
  obtain ⟨T2, h2, X2, e2, W2, st2⟩ := putF X1 hx hZ hown (host := "") (Or.inl (hw _ (List.mem_of_getElem? (i := 13) rfl))) Via.refl e1 (F_a1_setToUnixEpochMs.other W1 (Or.inr (slot_ne (Or.inl (hw _ (List.mem_of_getElem? (i := 14) rfl))) (Or.inl (hw _ (List.mem_of_getElem? (i := 12) rfl))) (by decide) (t := .long) (t' := .long) (by decide) (by decide)))) (E_a1.wr W1) (Or.inl (hw _ (List.mem_of_getElem? (i := 14) rfl))) (hw _ (List.mem_of_getElem? (i := 3) rfl)) (ty := .long) (by decide) rfl rfl (g := (mkF m 8 #[rv a1, .val (.long q2), .second, .val (.long q3), .second, .val (.long q4), .second] [(.long q4), (.ref a1)])) rfl rfl (hb hby d3_8)
  have Fw2 := (F_a1_setToUnixEpochMs.other W1 (Or.inr (slot_ne (Or.inl (hw _ (List.mem_of_getElem? (i := 14) rfl))) (Or.inl (hw _ (List.mem_of_getElem? (i := 12) rfl))) (by decide) (t := .long) (t' := .long) (by decide) (by decide)))).same W2
  have N2 := Fr.snoc X2 N1 g_a1
  refine own_go ?_ (fun target hr => st2 _ (XS.iconst X2.here hx rfl (hb hby d3_11) hr))
  show own_G _ p e below s _ _ _ (T2.setTop (mkF m 12 #[rv a1, .val (.long q2), .second, .val (.long q3), .second, .val (.long q4), .second] [(.int (1 : Int32))]))
  obtain ⟨fs, hr, hrun, hended, hW, hsame⟩ := X2.leave (v := some (.int (1 : Int32))) (fun h => by rw [Bd.returns] at h; cases h)
  exact ⟨_, _, retN X2 hx (t := .boolean) Bd.returns (by simp) (hb hby d3_12) hr, hrun, hended, _, _, rfl, (by rw [show (T2.setFrames fs).heap = h2 from e2]; exact ⟨rfl, N2, (((Keep.refl h0 [a1]).wr W1 (Or.inl (List.mem_of_getElem? (i := 0) rfl))).wr W2 (Or.inl (List.mem_of_getElem? (i := 0) rfl))), ((E_a1.wr W1).wr W2), (Fw1.other W2 (Or.inr (slot_ne (Or.inl (hw _ (List.mem_of_getElem? (i := 12) rfl))) (Or.inl (hw _ (List.mem_of_getElem? (i := 14) rfl))) (by decide) (t := .long) (t' := .long) (by decide) (by decide)))), Fw2⟩), ⟨_, rfl⟩, hW, hsame.mono (by decide) (by decide)⟩
theorem d4_0 : decode prog_10_method_3_code 0 = .ok (.aload_n 0, 1) := by decide +kernel
theorem d4_1 : decode prog_10_method_3_code 1 = .ok (.getfield 16, 3) := by decide +kernel
theorem d4_4 : decode prog_10_method_3_code 4 = .ok (.lload_n 1, 1) := by decide +kernel
theorem d4_5 : decode prog_10_method_3_code 5 = .ok (.aload_n 0, 1) := by decide +kernel
theorem d4_6 : decode prog_10_method_3_code 6 = .ok (.getfield 12, 3) := by decide +kernel
theorem d4_9 : decode prog_10_method_3_code 9 = .ok (.invokestatic 19, 3) := by decide +kernel
theorem d4_12 : decode prog_10_method_3_code 12 = .ok (.invokestatic 25, 3) := by decide +kernel
theorem d4_15 : decode prog_10_method_3_code 15 = .ok (.lreturn, 1) := by decide +kernel
theorem pn_4 : plainName "com/example/prita/prita/arbiter/SimulatedClock" = true := by first | (simp [plainName, overriddenIn]; done) | decide +kernel
theorem pd__JJ_J : parseMethodDescriptor "(JJ)J" = some ⟨[.long, .long], some .long⟩ := by decide +kernel
theorem ef_4 (m : MethodId) (x0 : Addr) (x1 : Int64) : entryFrame m #[(.ref x0), (.long x1)] 3 = mkF m 0 #[rv x0, .val (.long x1), .second] [] := by first | (simp [entryFrame, mkF, argsToLocals, Value.category]; done) | rfl
def Q_rm4 (Z : State) (a1 : Addr) (q2 : Int64) (we : Int64) (wu : Int64) (h0 : Heap) (n0 : Nat) : Option Value → Heap → List Loc → Prop := fun v h L => v = some (.long (wu + (q2 - we))) ∧ Fr n0 L ∧ h = h0
set_option maxRecDepth 65536 in
set_option maxHeartbeats 40000000 in
theorem rm4 (l : Launch) (Z : State) (a0 : Array Value) (hw : ∀ d ∈ tables_1, d.before a0 Z = true) (ws : List Jvm.Cond) (a1 : Addr) (q2 : Int64) (we : Int64) (wu : Int64) (h0 : Heap) (n0 : Nat) (Z0 : n0 ≤ h0.size) (F_a1_setAtElapsedMs : Fld Z h0 a1 "com/example/prita/prita/arbiter/SimulatedClock" "setAtElapsedMs" "J" (.long we)) (F_a1_setToUnixEpochMs : Fld Z h0 a1 "com/example/prita/prita/arbiter/SimulatedClock" "setToUnixEpochMs" "J" (.long wu)) (hs : ¬ (((q2 ^^^ we) &&& (q2 ^^^ (q2 - we))) < (0 : Int64))) (ha : ¬ (((wu ^^^ (wu + (q2 - we))) &&& ((q2 - we) ^^^ (wu + (q2 - we)))) < (0 : Int64))) :
    MetFree l (⟨"com/example/prita/prita/arbiter/SimulatedClock", "read", "(J)J"⟩ : MethodName) (head1 (Jvm.Cond.code (⟨"com/example/prita/prita/arbiter/SimulatedClock", "read", "(J)J"⟩ : MethodName) prog_10_method_3_code 3 (some .long) :: ws) ({ frames := 1, cells := 0, slots := 0, locals := 19 } : Room)) (fun a U => a = #[(.ref a1), (.long q2)] ∧ Z.Warmed39 U.vm ∧ U.heap = h0) (fun _ _ _ _ _ => True) (fun _ U o U' => ∃ v L, o = .returned v ∧ (Q_rm4 Z a1 q2 we wu h0 n0) v U'.heap L ∧ FrameEnd U o U' L ({ frames := 1, cells := 0, slots := 0, locals := 19 } : Room).cells ({ frames := 1, cells := 0, slots := 0, locals := 19 } : Room).slots) := by
  refine MetFree.of_bodySF (plainFor_of_name pn_4) hisR ?_
  intro p e s m args below meth c s₁ Bd hml0 hP hK
  obtain ⟨rfl, hZ, hh⟩ := hP
  have hx := Bd.exec
  have hby := Bd.bytes
  have hml : c.maxLocals = 3 := hml0
  have hown : s.vm.findClass "com/example/prita/prita/arbiter/SimulatedClock" = some m.cls := findClass_of_methodNamed Bd.named
  have hnm := (name_of_methodNamed Bd.named Bd.method).1
  have X0 : Stand p l e ({ frames := 1, cells := 0, slots := 0, locals := 19 } : Room) s m #[(.ref a1), (.long q2)] below meth c s₁ [] 0 0 := Stand.of_body Bd
  have e0 : s₁.heap = h0 := by rw [← hh, Bd.state]; rfl
  have N0 := Fr.nil n0
  show own_G FrameEnd p e below s ({ frames := 1, cells := 0, slots := 0, locals := 19 } : Room).cells ({ frames := 1, cells := 0, slots := 0, locals := 19 } : Room).slots (Q_rm4 Z a1 q2 we wu h0 n0) (s₁.setTop (entryFrame m #[(.ref a1), (.long q2)] 3))
  refine own_go (Y' := s₁.setTop (mkF m 0 #[rv a1, .val (.long q2), .second] [])) ?_ (fun t k => castTop (ef_4 m a1 q2) k)
  refine own_go ?_ (fun target hr => XS.aloadN X0.here hx rfl (hb hby d4_0) rfl rfl hr)
  show own_G _ p e below s _ _ _ (s₁.setTop (mkF m 1 #[rv a1, .val (.long q2), .second] [(.ref a1)]))
  obtain ⟨T1, X1, e1, st1⟩ := getF X0 hx hZ hown (host := "") (Or.inl (hw _ (List.mem_of_getElem? (i := 13) rfl))) Via.refl e0 F_a1_setToUnixEpochMs (g := (mkF m 1 #[rv a1, .val (.long q2), .second] [(.ref a1)])) rfl rfl (hb hby d4_1)
  refine own_go ?_ (fun target hr => st1 _ (XS.lloadN X1.here hx rfl (hb hby d4_4) rfl (XS.aloadN X1.here hx rfl (hb hby d4_5) rfl rfl hr)))
  show own_G _ p e below s _ _ _ (T1.setTop (mkF m 6 #[rv a1, .val (.long q2), .second] [(.ref a1), (.long q2), (.long wu)]))
  obtain ⟨T2, X2, e2, st2⟩ := getF X1 hx hZ hown (host := "") (Or.inl (hw _ (List.mem_of_getElem? (i := 11) rfl))) Via.refl e1 F_a1_setAtElapsedMs (g := (mkF m 6 #[rv a1, .val (.long q2), .second] [(.ref a1), (.long q2), (.long wu)])) rfl rfl (hb hby d4_6)
  refine own_go ?_ (fun target hr => st2 _ hr)
  show own_G _ p e below s _ _ _ (T2.setTop (mkF m 9 #[rv a1, .val (.long q2), .second] [(.long we), (.long q2), (.long wu)]))
  obtain ⟨_, _, ⟨T3, L3, k3, n3⟩, -, X3, ⟨Lc3, hQ3, l3, y3, z3⟩, st3⟩ := Jvm.LawKit.callS X2 hx (y := (⟨"java/lang/Math", "subtractExact", "(JJ)J"⟩ : MethodName)) hown (mvT hZ (hw _ (List.mem_of_getElem? (i := 25) rfl))) (mvT hZ (hw _ (List.mem_of_getElem? (i := 26) rfl))) (mvT hZ (hw _ (List.mem_of_getElem? (i := 27) rfl))) (mvT hZ (hw _ (List.mem_of_getElem? (i := 28) rfl))) (by decide) (backOf (W := 2) (rm5 l Z a0 hw [] q2 we h0 n0 Z0 hs) hZ (hw _ (List.mem_of_getElem? (i := 28) rfl)) (hw _ (List.mem_of_getElem? (i := 27) rfl)) (by decide) (by decide)) (g := (mkF m 9 #[rv a1, .val (.long q2), .second] [(.long we), (.long q2), (.long wu)])) rfl (by rw [hml]; rfl) (argsL := [(.long q2), (.long we)]) (rest := [(.long wu)]) (lenOf pd__JJ_J rfl) rfl (by show 2 * 0 + _ ≤ _; exact Nat.le_of_eq rfl) (hb hby d4_9) (fun _ _ => ⟨rfl, e2, (by decide : 0 + 0 ≤ _), (by decide : 0 + 0 ≤ _)⟩)
  dsimp only [Pt.U, Pt.locs, Pt.cells, Pt.slots] at X3 l3 y3 z3 st3 hQ3
  subst l3 y3 z3
  obtain ⟨rfl, N3q, e3⟩ := hQ3
  have N3 := Fr.app N0 N3q
  refine own_go ?_ (fun target hr => st3 _ hr)
  show own_G _ p e below s _ _ _ (T3.setTop (mkF m 12 #[rv a1, .val (.long q2), .second] [(.long (q2 - we)), (.long wu)]))
  obtain ⟨_, _, ⟨T4, L4, k4, n4⟩, -, X4, ⟨Lc4, hQ4, l4, y4, z4⟩, st4⟩ := Jvm.LawKit.callS X3 hx (y := (⟨"java/lang/Math", "addExact", "(JJ)J"⟩ : MethodName)) hown (mvT hZ (hw _ (List.mem_of_getElem? (i := 29) rfl))) (mvT hZ (hw _ (List.mem_of_getElem? (i := 30) rfl))) (mvT hZ (hw _ (List.mem_of_getElem? (i := 27) rfl))) (mvT hZ (hw _ (List.mem_of_getElem? (i := 31) rfl))) (by decide) (backOf (W := 0) (rm6 l Z a0 hw [] wu (q2 - we) h0 n0 Z0 ha) hZ (hw _ (List.mem_of_getElem? (i := 31) rfl)) (hw _ (List.mem_of_getElem? (i := 27) rfl)) (by decide) (by decide)) (g := (mkF m 12 #[rv a1, .val (.long q2), .second] [(.long (q2 - we)), (.long wu)])) rfl (by rw [hml]; rfl) (argsL := [(.long wu), (.long (q2 - we))]) (rest := []) (lenOf pd__JJ_J rfl) rfl (by show 2 * 0 + _ ≤ _; exact Nat.le_of_eq rfl) (hb hby d4_12) (fun _ _ => ⟨rfl, e3, (by decide : 0 + 0 ≤ _), (by decide : 0 + 0 ≤ _)⟩)
  dsimp only [Pt.U, Pt.locs, Pt.cells, Pt.slots] at X4 l4 y4 z4 st4 hQ4
  subst l4 y4 z4
  obtain ⟨rfl, N4q, e4⟩ := hQ4
  have N4 := Fr.app N3 N4q
  refine own_go ?_ (fun target hr => st4 _ hr)
  show own_G _ p e below s _ _ _ (T4.setTop (mkF m 15 #[rv a1, .val (.long q2), .second] [(.long (wu + (q2 - we)))]))
  obtain ⟨fs, hr, hrun, hended, hW, hsame⟩ := X4.leave (v := some (.long (wu + (q2 - we)))) (fun h => by rw [Bd.returns] at h; cases h)
  exact ⟨_, _, X4.lreturnOut hx Bd.returns (hb hby d4_15) hr, hrun, hended, _, _, rfl, ⟨rfl, N4, e4⟩, ⟨_, rfl⟩, hW, hsame.mono (by decide) (by decide)⟩
theorem own_sub (e d : Int64) : e + d - e = d := by rw [Int64.add_comm, Int64.add_sub_cancel]
theorem own_e1 (e : Int64) : ¬ (((e ^^^ e) &&& (e ^^^ (e - e))) < (0 : Int64)) := by simp
theorem own_e5 (e u : Int64) : (u + (e - e)) = u := by simp
theorem own_e2 (e u : Int64) : ¬ (((u ^^^ (u + (e - e))) &&& ((e - e) ^^^ (u + (e - e)))) < (0 : Int64)) := by rw [own_e5]; simp
theorem own_e3 (e d : Int64) (h : ¬ (((e ^^^ (e + d)) &&& (d ^^^ (e + d))) < (0 : Int64))) : ¬ ((((e + d) ^^^ e) &&& ((e + d) ^^^ ((e + d) - e))) < (0 : Int64)) := by
  rw [own_sub, Int64.xor_comm (e + d) e, Int64.xor_comm (e + d) d]; exact h
theorem own_e4 (e d u : Int64) (h : ¬ (((u ^^^ (u + d)) &&& (d ^^^ (u + d))) < (0 : Int64))) : ¬ (((u ^^^ (u + ((e + d) - e))) &&& (((e + d) - e) ^^^ (u + ((e + d) - e)))) < (0 : Int64)) := by
  rw [own_sub]; exact h
theorem own_e6 (e d u : Int64) : (u + ((e + d) - e)) = (u + d) := by rw [own_sub]
theorem pn_0 : plainName "com/example/prita/prita/arbiter/SimulatedClockSetPinLaw" = true := by first | (simp [plainName, overriddenIn]; done) | decide +kernel
theorem pd__JJ_V : parseMethodDescriptor "(JJ)V" = some ⟨[.long, .long], none⟩ := by decide +kernel
theorem pd__JJJ_Z : parseMethodDescriptor "(JJJ)Z" = some ⟨[.long, .long, .long], some .boolean⟩ := by decide +kernel
theorem pd__J_J : parseMethodDescriptor "(J)J" = some ⟨[.long], some .long⟩ := by decide +kernel
theorem ef_0 (m : MethodId) (x0 : Int64) (x1 : Int64) (x2 : Int64) (x3 : Int64) (x4 : Int64) (x5 : Int32) : entryFrame m #[(.long x0), (.long x1), (.long x2), (.long x3), (.long x4), (.int x5)] maxLocals = mkF m 0 #[.val (.long x0), .second, .val (.long x1), .second, .val (.long x2), .second, .val (.long x3), .second, .val (.long x4), .second, iv x5, .unset, .unset, .unset, .unset, .unset, .unset, .unset, .unset, .unset, .unset] [] := by first | (simp [entryFrame, mkF, argsToLocals, Value.category, maxLocals]; done) | rfl
def f0 (q1 : Int64) (q2 : Int64) (q3 : Int64) (q4 : Int64) (q5 : Int64) (p6 : Int32) : Int32 := (if ((q3 ^^^ (q3 + ((p6 >>> ((12 : Int32) &&& 31)).toInt64))) &&& (((p6 >>> ((12 : Int32) &&& 31)).toInt64) ^^^ (q3 + ((p6 >>> ((12 : Int32) &&& 31)).toInt64)))) < (0 : Int64) then (1 : Int32) else (if ((q5 ^^^ (q5 + ((p6 >>> ((12 : Int32) &&& 31)).toInt64))) &&& (((p6 >>> ((12 : Int32) &&& 31)).toInt64) ^^^ (q5 + ((p6 >>> ((12 : Int32) &&& 31)).toInt64)))) < (0 : Int64) then (1 : Int32) else (1 : Int32)))
def Q_rm0 (Z : State) (q1 : Int64) (q2 : Int64) (q3 : Int64) (q4 : Int64) (q5 : Int64) (p6 : Int32) (h0 : Heap) (n0 : Nat) : Option Value → Heap → List Loc → Prop := fun v h L => v = some (.int (f0 q1 q2 q3 q4 q5 p6)) ∧ Fr n0 L ∧ True
set_option maxRecDepth 65536 in
set_option maxHeartbeats 40000000 in
theorem rm0 (l : Launch) (Z : State) (a0 : Array Value) (hw : ∀ d ∈ tables_1, d.before a0 Z = true) (ws : List Jvm.Cond) (q1 : Int64) (q2 : Int64) (q3 : Int64) (q4 : Int64) (q5 : Int64) (p6 : Int32) (h0 : Heap) (n0 : Nat) (Z0 : n0 ≤ h0.size) :
    MetFree l x (head1 (Jvm.Cond.code x code maxLocals ret :: ws) room_1) (fun a U => a = #[(.long q1), (.long q2), (.long q3), (.long q4), (.long q5), (.int p6)] ∧ Z.Warmed39 U.vm ∧ U.heap = h0) (fun _ _ _ _ _ => True) (fun _ U o U' => ∃ v L, o = .returned v ∧ (Q_rm0 Z q1 q2 q3 q4 q5 p6 h0 n0) v U'.heap L ∧ FrameEnd U o U' L room_1.cells room_1.slots) := by
  refine MetFree.of_bodySF (plainFor_of_name pn_0) hisR ?_
  intro p e s m args below meth c s₁ Bd hml0 hP hK
  obtain ⟨rfl, hZ, hh⟩ := hP
  have hx := Bd.exec
  have hby := Bd.bytes
  have hml : c.maxLocals = 21 := hml0
  have hown : s.vm.findClass "com/example/prita/prita/arbiter/SimulatedClockSetPinLaw" = some m.cls := findClass_of_methodNamed Bd.named
  have hnm := (name_of_methodNamed Bd.named Bd.method).1
  have X0 : Stand p l e room_1 s m #[(.long q1), (.long q2), (.long q3), (.long q4), (.long q5), (.int p6)] below meth c s₁ [] 0 0 := Stand.of_body Bd
  have e0 : s₁.heap = h0 := by rw [← hh, Bd.state]; rfl
  have N0 := Fr.nil n0
  show own_G FrameEnd p e below s room_1.cells room_1.slots (Q_rm0 Z q1 q2 q3 q4 q5 p6 h0 n0) (s₁.setTop (entryFrame m #[(.long q1), (.long q2), (.long q3), (.long q4), (.long q5), (.int p6)] maxLocals))
  refine own_go (Y' := s₁.setTop (mkF m 0 #[.val (.long q1), .second, .val (.long q2), .second, .val (.long q3), .second, .val (.long q4), .second, .val (.long q5), .second, iv p6, .unset, .unset, .unset, .unset, .unset, .unset, .unset, .unset, .unset, .unset] [])) ?_ (fun t k => castTop (ef_0 m q1 q2 q3 q4 q5 p6) k)
  refine own_go ?_ (fun target hr => XS.lload X0.here hx rfl (hb hby at_0) rfl (X0.ldc2J hx hown (mvT hZ (hw _ (List.mem_of_getElem? (i := 0) rfl))) rfl (hb hby at_2) (XS.land X0.here hx rfl (hb hby at_5) rfl (X0.ldc2J hx hown (mvT hZ (hw _ (List.mem_of_getElem? (i := 1) rfl))) rfl (hb hby at_6) (XS.lrem X0.here hx rfl (hb hby at_9) rfl (by decide) (XS.lstore X0.here hx rfl (hb hby at_10) rfl (l' := #[.val (.long q1), .second, .val (.long q2), .second, .val (.long q3), .second, .val (.long q4), .second, .val (.long q5), .second, iv p6, .val (.long ((q4 &&& (2147483647 : Int64)) - (q4 &&& (2147483647 : Int64)) / (1000000 : Int64) * (1000000 : Int64))), .second, .unset, .unset, .unset, .unset, .unset, .unset, .unset, .unset]) rfl hr))))))
  show own_G _ p e below s _ _ _ (s₁.setTop (mkF m 12 #[.val (.long q1), .second, .val (.long q2), .second, .val (.long q3), .second, .val (.long q4), .second, .val (.long q5), .second, iv p6, .val (.long ((q4 &&& (2147483647 : Int64)) - (q4 &&& (2147483647 : Int64)) / (1000000 : Int64) * (1000000 : Int64))), .second, .unset, .unset, .unset, .unset, .unset, .unset, .unset, .unset] []))
  obtain ⟨T1, h1, X1, e1, E1, A1, D1, -, st1⟩ := newO X0 hx hZ hown (hw _ (List.mem_of_getElem? (i := 2) rfl)) (hw _ (List.mem_of_getElem? (i := 3) rfl)) (hw _ (List.mem_of_getElem? (i := 4) rfl)) e0 (g := (mkF m 12 #[.val (.long q1), .second, .val (.long q2), .second, .val (.long q3), .second, .val (.long q4), .second, .val (.long q5), .second, iv p6, .val (.long ((q4 &&& (2147483647 : Int64)) - (q4 &&& (2147483647 : Int64)) / (1000000 : Int64) * (1000000 : Int64))), .second, .unset, .unset, .unset, .unset, .unset, .unset, .unset, .unset] [])) rfl (hb hby at_12) (by decide) (by decide)
  obtain ⟨b1, g1⟩ : ∃ z, z = h0.size := ⟨_, rfl⟩
  rw [← g1] at A1 D1 st1
  have g_b1 : n0 ≤ b1 := Nat.le_trans Z0 (Nat.le_of_eq g1.symm)
  have F1_12 : Fld Z h1 b1 "com/example/prita/prita/arbiter/SimulatedClock" "setAtElapsedMs" "J" (.long (0 : Int64)) := D1 (Or.inl (hw _ (List.mem_of_getElem? (i := 12) rfl))) (ty := .long) (by decide)
  have F1_14 : Fld Z h1 b1 "com/example/prita/prita/arbiter/SimulatedClock" "setToUnixEpochMs" "J" (.long (0 : Int64)) := D1 (Or.inl (hw _ (List.mem_of_getElem? (i := 14) rfl))) (ty := .long) (by decide)
  refine own_go ?_ (fun target hr => st1 _ (XS.dup X1.here hx rfl (hb hby at_15) rfl rfl (XS.lloadN X1.here hx rfl (hb hby at_16) rfl (XS.lloadN X1.here hx rfl (hb hby at_17) rfl hr))))
  show own_G _ p e below s _ _ _ (T1.setTop (mkF m 18 #[.val (.long q1), .second, .val (.long q2), .second, .val (.long q3), .second, .val (.long q4), .second, .val (.long q5), .second, iv p6, .val (.long ((q4 &&& (2147483647 : Int64)) - (q4 &&& (2147483647 : Int64)) / (1000000 : Int64) * (1000000 : Int64))), .second, .unset, .unset, .unset, .unset, .unset, .unset, .unset, .unset] [(.long q2), (.long q1), (.ref b1), (.ref b1)]))
  obtain ⟨_, _, ⟨T2, L2, k2, n2⟩, -, X2, ⟨Lc2, hQ2, l2, y2, z2⟩, st2⟩ := X1.specialBack hx (y := (⟨"com/example/prita/prita/arbiter/SimulatedClock", "<init>", "(JJ)V"⟩ : MethodName)) rfl hown (mvT hZ (hw _ (List.mem_of_getElem? (i := 5) rfl))) (mvT hZ (hw _ (List.mem_of_getElem? (i := 6) rfl))) (mvT hZ (hw _ (List.mem_of_getElem? (i := 7) rfl))) (by decide) (backOf (W := 1) (rm1 l Z a0 hw [] b1 q1 q2 (.long (0 : Int64)) (.long (0 : Int64)) h1 n0 (Nat.le_trans Z0 E1.1) A1 F1_12 F1_14 g_b1) hZ (hw _ (List.mem_of_getElem? (i := 7) rfl)) (hw _ (List.mem_of_getElem? (i := 4) rfl)) (by decide) (by decide)) (g := (mkF m 18 #[.val (.long q1), .second, .val (.long q2), .second, .val (.long q3), .second, .val (.long q4), .second, .val (.long q5), .second, iv p6, .val (.long ((q4 &&& (2147483647 : Int64)) - (q4 &&& (2147483647 : Int64)) / (1000000 : Int64) * (1000000 : Int64))), .second, .unset, .unset, .unset, .unset, .unset, .unset, .unset, .unset] [(.long q2), (.long q1), (.ref b1), (.ref b1)])) rfl (by rw [hml]; rfl) (Steps.refl _) (a := b1) (argsL := [(.long q1), (.long q2)]) (rest := [(.ref b1)]) (lenOf pd__JJ_V rfl) rfl (by show 2 * 0 + _ ≤ _; exact Nat.le_of_eq rfl) (hb hby at_18) (fun _ _ => ⟨rfl, e1, (by decide : 1 + 0 ≤ _), (by decide : 2 + 0 ≤ _)⟩)
  dsimp only [Pt.U, Pt.locs, Pt.cells, Pt.slots] at X2 l2 y2 z2 st2 hQ2
  subst l2 y2 z2
  obtain ⟨rfl, N2q, K2, P2_0, P2_1, P2_2⟩ := hQ2
  have N2 := Fr.app N0 N2q
  refine own_go ?_ (fun target hr => st2.trans (XS.astore X2.here hx rfl (hb hby at_21) rfl rfl (l' := #[.val (.long q1), .second, .val (.long q2), .second, .val (.long q3), .second, .val (.long q4), .second, .val (.long q5), .second, iv p6, .val (.long ((q4 &&& (2147483647 : Int64)) - (q4 &&& (2147483647 : Int64)) / (1000000 : Int64) * (1000000 : Int64))), .second, rv b1, .unset, .unset, .unset, .unset, .unset, .unset, .unset]) rfl (XS.aload X2.here hx rfl (hb hby at_23) rfl rfl (XS.lload X2.here hx rfl (hb hby at_25) rfl (XS.lload X2.here hx rfl (hb hby at_27) rfl (XS.lload X2.here hx rfl (hb hby at_29) rfl hr))))))
  show own_G _ p e below s _ _ _ (T2.setTop (mkF m 31 #[.val (.long q1), .second, .val (.long q2), .second, .val (.long q3), .second, .val (.long q4), .second, .val (.long q5), .second, iv p6, .val (.long ((q4 &&& (2147483647 : Int64)) - (q4 &&& (2147483647 : Int64)) / (1000000 : Int64) * (1000000 : Int64))), .second, rv b1, .unset, .unset, .unset, .unset, .unset, .unset, .unset] [(.long q5), (.long ((q4 &&& (2147483647 : Int64)) - (q4 &&& (2147483647 : Int64)) / (1000000 : Int64) * (1000000 : Int64))), (.long q3), (.ref b1)]))
  obtain ⟨cq3, kq3, q3a, q3b, q3c⟩ := isOf hZ rfl P2_0
  obtain ⟨_, _, ⟨T3, L3, k3, n3⟩, -, X3, ⟨Lc3, hQ3, l3, y3, z3⟩, st3⟩ := X2.virtualBack hx (y := (⟨"com/example/prita/prita/arbiter/SimulatedClock", "set", "(JJJ)Z"⟩ : MethodName)) (z := (⟨"com/example/prita/prita/arbiter/SimulatedClock", "set", "(JJJ)Z"⟩ : MethodName)) hown (mvT hZ (hw _ (List.mem_of_getElem? (i := 15) rfl))) (mvT hZ (hw _ (List.mem_of_getElem? (i := 16) rfl))) (notFace_of_selects (args := #[]) (mvT hZ (hw _ (List.mem_of_getElem? (i := 18) rfl)))) (mvT hZ (hw _ (List.mem_of_getElem? (i := 18) rfl))) (mvT hZ (hw _ (List.mem_of_getElem? (i := 17) rfl))) (by decide) (backOf (W := 0) (rm3 l Z a0 hw [] b1 q3 ((q4 &&& (2147483647 : Int64)) - (q4 &&& (2147483647 : Int64)) / (1000000 : Int64) * (1000000 : Int64)) q5 (.long q1) (.long q2) T2.heap n0 (Nat.le_trans (Nat.le_trans Z0 E1.1) K2.1) P2_0 P2_1 P2_2 g_b1) hZ (hw _ (List.mem_of_getElem? (i := 19) rfl)) (hw _ (List.mem_of_getElem? (i := 4) rfl)) (by decide) (by decide)) q3a q3c (g := (mkF m 31 #[.val (.long q1), .second, .val (.long q2), .second, .val (.long q3), .second, .val (.long q4), .second, .val (.long q5), .second, iv p6, .val (.long ((q4 &&& (2147483647 : Int64)) - (q4 &&& (2147483647 : Int64)) / (1000000 : Int64) * (1000000 : Int64))), .second, rv b1, .unset, .unset, .unset, .unset, .unset, .unset, .unset] [(.long q5), (.long ((q4 &&& (2147483647 : Int64)) - (q4 &&& (2147483647 : Int64)) / (1000000 : Int64) * (1000000 : Int64))), (.long q3), (.ref b1)])) rfl (by rw [hml]; rfl) (Steps.refl _) (argsL := [(.long q3), (.long ((q4 &&& (2147483647 : Int64)) - (q4 &&& (2147483647 : Int64)) / (1000000 : Int64) * (1000000 : Int64))), (.long q5)]) (rest := []) (lenOf pd__JJJ_Z rfl) rfl (by show 2 * 0 + _ ≤ _; exact Nat.le_of_eq rfl) (hb hby at_31) (fun _ _ => ⟨rfl, rfl, (by decide : 1 + 0 ≤ _), (by decide : 2 + 0 ≤ _)⟩)
  dsimp only [Pt.U, Pt.locs, Pt.cells, Pt.slots] at X3 l3 y3 z3 st3 hQ3
  subst l3 y3 z3
  obtain ⟨rfl, N3q, K3, P3_0, P3_1, P3_2⟩ := hQ3
  have N3 := Fr.app N2 N3q
  refine own_go ?_ (fun target hr => st3.trans (XS.istore X3.here hx rfl (hb hby at_34) rfl (l' := #[.val (.long q1), .second, .val (.long q2), .second, .val (.long q3), .second, .val (.long q4), .second, .val (.long q5), .second, iv p6, .val (.long ((q4 &&& (2147483647 : Int64)) - (q4 &&& (2147483647 : Int64)) / (1000000 : Int64) * (1000000 : Int64))), .second, rv b1, iv (1 : Int32), .unset, .unset, .unset, .unset, .unset, .unset]) rfl (XS.iload X3.here hx rfl (hb hby at_36) rfl (XS.ifYes X3.here hx rfl (pc0 := 38) (pc' := 43) rfl (hb hby at_38) rfl ((if0 _ _).trans (feq (by decide : ¬ ((1 : Int32) = (0 : Int32)))).2) (by decide) (by decide) (XS.aload X3.here hx rfl (hb hby at_43) rfl rfl (XS.lload X3.here hx rfl (hb hby at_45) rfl hr))))))
  show own_G _ p e below s _ _ _ (T3.setTop (mkF m 47 #[.val (.long q1), .second, .val (.long q2), .second, .val (.long q3), .second, .val (.long q4), .second, .val (.long q5), .second, iv p6, .val (.long ((q4 &&& (2147483647 : Int64)) - (q4 &&& (2147483647 : Int64)) / (1000000 : Int64) * (1000000 : Int64))), .second, rv b1, iv (1 : Int32), .unset, .unset, .unset, .unset, .unset, .unset] [(.long q3), (.ref b1)]))
  obtain ⟨cq4, kq4, q4a, q4b, q4c⟩ := isOf hZ rfl P3_0
  obtain ⟨_, _, ⟨T4, L4, k4, n4⟩, -, X4, ⟨Lc4, hQ4, l4, y4, z4⟩, st4⟩ := X3.virtualBack hx (y := (⟨"com/example/prita/prita/arbiter/SimulatedClock", "read", "(J)J"⟩ : MethodName)) (z := (⟨"com/example/prita/prita/arbiter/SimulatedClock", "read", "(J)J"⟩ : MethodName)) hown (mvT hZ (hw _ (List.mem_of_getElem? (i := 20) rfl))) (mvT hZ (hw _ (List.mem_of_getElem? (i := 21) rfl))) (notFace_of_selects (args := #[]) (mvT hZ (hw _ (List.mem_of_getElem? (i := 23) rfl)))) (mvT hZ (hw _ (List.mem_of_getElem? (i := 23) rfl))) (mvT hZ (hw _ (List.mem_of_getElem? (i := 22) rfl))) (by decide) (backOf (W := 0) (rm4 l Z a0 hw [] b1 q3 q3 q5 T3.heap n0 (Nat.le_trans (Nat.le_trans (Nat.le_trans Z0 E1.1) K2.1) K3.1) P3_1 P3_2 (own_e1 q3) (own_e2 q3 q5)) hZ (hw _ (List.mem_of_getElem? (i := 24) rfl)) (hw _ (List.mem_of_getElem? (i := 4) rfl)) (by decide) (by decide)) q4a q4c (g := (mkF m 47 #[.val (.long q1), .second, .val (.long q2), .second, .val (.long q3), .second, .val (.long q4), .second, .val (.long q5), .second, iv p6, .val (.long ((q4 &&& (2147483647 : Int64)) - (q4 &&& (2147483647 : Int64)) / (1000000 : Int64) * (1000000 : Int64))), .second, rv b1, iv (1 : Int32), .unset, .unset, .unset, .unset, .unset, .unset] [(.long q3), (.ref b1)])) rfl (by rw [hml]; rfl) (Steps.refl _) (argsL := [(.long q3)]) (rest := []) (lenOf pd__J_J rfl) rfl (by show 2 * 0 + _ ≤ _; exact Nat.le_of_eq rfl) (hb hby at_47) (fun _ _ => ⟨rfl, rfl, (by decide : 1 + 0 ≤ _), (by decide : 2 + 0 ≤ _)⟩)
  dsimp only [Pt.U, Pt.locs, Pt.cells, Pt.slots] at X4 l4 y4 z4 st4 hQ4
  subst l4 y4 z4
  obtain ⟨rfl, N4q, e4⟩ := hQ4
  have N4 := Fr.app N3 N4q
  refine own_go ?_ (fun target hr => st4.trans (XS.lload X4.here hx rfl (hb hby at_50) rfl (XS.lcmp X4.here hx rfl (hb hby at_52) rfl (XS.ifYes X4.here hx rfl (pc0 := 53) (pc' := 58) rfl (hb hby at_53) rfl ((if0 _ _).trans (teq ((lw_eq (q5 + (q3 - q3)) q5).mpr (own_e5 q3 q5))).1) (by decide) (by decide) (XS.iload X4.here hx rfl (hb hby at_58) rfl (XS.bipush X4.here hx rfl (hb hby at_60) (XS.ishr X4.here hx rfl (hb hby at_62) rfl (XS.i2l X4.here hx rfl (hb hby at_63) rfl hr))))))))
  show own_G _ p e below s _ _ _ (T4.setTop (mkF m 64 #[.val (.long q1), .second, .val (.long q2), .second, .val (.long q3), .second, .val (.long q4), .second, .val (.long q5), .second, iv p6, .val (.long ((q4 &&& (2147483647 : Int64)) - (q4 &&& (2147483647 : Int64)) / (1000000 : Int64) * (1000000 : Int64))), .second, rv b1, iv (1 : Int32), .unset, .unset, .unset, .unset, .unset, .unset] [(.long ((p6 >>> ((12 : Int32) &&& 31)).toInt64))]))
  refine own_go ?_ (fun target hr => XS.lstore X4.here hx rfl (hb hby at_64) rfl (l' := #[.val (.long q1), .second, .val (.long q2), .second, .val (.long q3), .second, .val (.long q4), .second, .val (.long q5), .second, iv p6, .val (.long ((q4 &&& (2147483647 : Int64)) - (q4 &&& (2147483647 : Int64)) / (1000000 : Int64) * (1000000 : Int64))), .second, rv b1, iv (1 : Int32), .val (.long ((p6 >>> ((12 : Int32) &&& 31)).toInt64)), .second, .unset, .unset, .unset, .unset]) rfl (XS.lload X4.here hx rfl (hb hby at_66) rfl (XS.lload X4.here hx rfl (hb hby at_68) rfl (XS.ladd X4.here hx rfl (hb hby at_70) rfl (XS.lstore X4.here hx rfl (hb hby at_71) rfl (l' := #[.val (.long q1), .second, .val (.long q2), .second, .val (.long q3), .second, .val (.long q4), .second, .val (.long q5), .second, iv p6, .val (.long ((q4 &&& (2147483647 : Int64)) - (q4 &&& (2147483647 : Int64)) / (1000000 : Int64) * (1000000 : Int64))), .second, rv b1, iv (1 : Int32), .val (.long ((p6 >>> ((12 : Int32) &&& 31)).toInt64)), .second, .val (.long (q3 + ((p6 >>> ((12 : Int32) &&& 31)).toInt64))), .second, .unset, .unset]) rfl (XS.lload X4.here hx rfl (hb hby at_73) rfl (XS.lload X4.here hx rfl (hb hby at_75) rfl (XS.lxor X4.here hx rfl (hb hby at_77) rfl hr))))))))
  show own_G _ p e below s _ _ _ (T4.setTop (mkF m 78 #[.val (.long q1), .second, .val (.long q2), .second, .val (.long q3), .second, .val (.long q4), .second, .val (.long q5), .second, iv p6, .val (.long ((q4 &&& (2147483647 : Int64)) - (q4 &&& (2147483647 : Int64)) / (1000000 : Int64) * (1000000 : Int64))), .second, rv b1, iv (1 : Int32), .val (.long ((p6 >>> ((12 : Int32) &&& 31)).toInt64)), .second, .val (.long (q3 + ((p6 >>> ((12 : Int32) &&& 31)).toInt64))), .second, .unset, .unset] [(.long (q3 ^^^ (q3 + ((p6 >>> ((12 : Int32) &&& 31)).toInt64))))]))
  refine own_go ?_ (fun target hr => XS.lload X4.here hx rfl (hb hby at_78) rfl (XS.lload X4.here hx rfl (hb hby at_80) rfl (XS.lxor X4.here hx rfl (hb hby at_82) rfl (XS.land X4.here hx rfl (hb hby at_83) rfl (XS.lconst X4.here hx rfl (hb hby at_84) (XS.lcmp X4.here hx rfl (hb hby at_85) rfl hr))))))
  show own_G _ p e below s _ _ _ (T4.setTop (mkF m 86 #[.val (.long q1), .second, .val (.long q2), .second, .val (.long q3), .second, .val (.long q4), .second, .val (.long q5), .second, iv p6, .val (.long ((q4 &&& (2147483647 : Int64)) - (q4 &&& (2147483647 : Int64)) / (1000000 : Int64) * (1000000 : Int64))), .second, rv b1, iv (1 : Int32), .val (.long ((p6 >>> ((12 : Int32) &&& 31)).toInt64)), .second, .val (.long (q3 + ((p6 >>> ((12 : Int32) &&& 31)).toInt64))), .second, .unset, .unset] [(.int (lcmpW ((q3 ^^^ (q3 + ((p6 >>> ((12 : Int32) &&& 31)).toInt64))) &&& (((p6 >>> ((12 : Int32) &&& 31)).toInt64) ^^^ (q3 + ((p6 >>> ((12 : Int32) &&& 31)).toInt64)))) (0 : Int64)))]))
  by_cases hc86 : ((q3 ^^^ (q3 + ((p6 >>> ((12 : Int32) &&& 31)).toInt64))) &&& (((p6 >>> ((12 : Int32) &&& 31)).toInt64) ^^^ (q3 + ((p6 >>> ((12 : Int32) &&& 31)).toInt64)))) < (0 : Int64)
  ·
    refine own_go ?_ (fun target hr => XS.ifNo X4.here hx rfl (hb hby at_86) rfl ((if0 _ _).trans (tlt ((lw_lt ((q3 ^^^ (q3 + ((p6 >>> ((12 : Int32) &&& 31)).toInt64))) &&& (((p6 >>> ((12 : Int32) &&& 31)).toInt64) ^^^ (q3 + ((p6 >>> ((12 : Int32) &&& 31)).toInt64)))) (0 : Int64)).mpr hc86)).2.1) (XS.iconst X4.here hx rfl (hb hby at_89) hr))
    show own_G _ p e below s _ _ _ (T4.setTop (mkF m 90 #[.val (.long q1), .second, .val (.long q2), .second, .val (.long q3), .second, .val (.long q4), .second, .val (.long q5), .second, iv p6, .val (.long ((q4 &&& (2147483647 : Int64)) - (q4 &&& (2147483647 : Int64)) / (1000000 : Int64) * (1000000 : Int64))), .second, rv b1, iv (1 : Int32), .val (.long ((p6 >>> ((12 : Int32) &&& 31)).toInt64)), .second, .val (.long (q3 + ((p6 >>> ((12 : Int32) &&& 31)).toInt64))), .second, .unset, .unset] [(.int (1 : Int32))]))
    obtain ⟨fs, hr, hrun, hended, hW, hsame⟩ := X4.leave (v := some (.int (1 : Int32))) (fun h => by rw [Bd.returns] at h; cases h)
    exact ⟨_, _, retN X4 hx (t := .boolean) Bd.returns (by simp) (hb hby at_90) hr, hrun, hended, _, _, rfl, ⟨(by unfold f0; rw [if_pos hc86]), N4, trivial⟩, ⟨_, rfl⟩, hW, hsame.mono (by decide) (by decide)⟩
  ·
    refine own_go ?_ (fun target hr => XS.ifYes X4.here hx rfl (pc0 := 86) (pc' := 91) rfl (hb hby at_86) rfl ((if0 _ _).trans (flt (fun q => hc86 ((lw_lt ((q3 ^^^ (q3 + ((p6 >>> ((12 : Int32) &&& 31)).toInt64))) &&& (((p6 >>> ((12 : Int32) &&& 31)).toInt64) ^^^ (q3 + ((p6 >>> ((12 : Int32) &&& 31)).toInt64)))) (0 : Int64)).mp q))).2.1) (by decide) (by decide) (XS.lload X4.here hx rfl (hb hby at_91) rfl (XS.lload X4.here hx rfl (hb hby at_93) rfl (XS.ladd X4.here hx rfl (hb hby at_95) rfl (XS.lstore X4.here hx rfl (hb hby at_96) rfl (l' := #[.val (.long q1), .second, .val (.long q2), .second, .val (.long q3), .second, .val (.long q4), .second, .val (.long q5), .second, iv p6, .val (.long ((q4 &&& (2147483647 : Int64)) - (q4 &&& (2147483647 : Int64)) / (1000000 : Int64) * (1000000 : Int64))), .second, rv b1, iv (1 : Int32), .val (.long ((p6 >>> ((12 : Int32) &&& 31)).toInt64)), .second, .val (.long (q3 + ((p6 >>> ((12 : Int32) &&& 31)).toInt64))), .second, .val (.long (q5 + ((p6 >>> ((12 : Int32) &&& 31)).toInt64))), .second]) rfl (XS.lload X4.here hx rfl (hb hby at_98) rfl (XS.lload X4.here hx rfl (hb hby at_100) rfl (XS.lxor X4.here hx rfl (hb hby at_102) rfl hr))))))))
    show own_G _ p e below s _ _ _ (T4.setTop (mkF m 103 #[.val (.long q1), .second, .val (.long q2), .second, .val (.long q3), .second, .val (.long q4), .second, .val (.long q5), .second, iv p6, .val (.long ((q4 &&& (2147483647 : Int64)) - (q4 &&& (2147483647 : Int64)) / (1000000 : Int64) * (1000000 : Int64))), .second, rv b1, iv (1 : Int32), .val (.long ((p6 >>> ((12 : Int32) &&& 31)).toInt64)), .second, .val (.long (q3 + ((p6 >>> ((12 : Int32) &&& 31)).toInt64))), .second, .val (.long (q5 + ((p6 >>> ((12 : Int32) &&& 31)).toInt64))), .second] [(.long (q5 ^^^ (q5 + ((p6 >>> ((12 : Int32) &&& 31)).toInt64))))]))
    refine own_go ?_ (fun target hr => XS.lload X4.here hx rfl (hb hby at_103) rfl (XS.lload X4.here hx rfl (hb hby at_105) rfl (XS.lxor X4.here hx rfl (hb hby at_107) rfl (XS.land X4.here hx rfl (hb hby at_108) rfl (XS.lconst X4.here hx rfl (hb hby at_109) (XS.lcmp X4.here hx rfl (hb hby at_110) rfl hr))))))
    show own_G _ p e below s _ _ _ (T4.setTop (mkF m 111 #[.val (.long q1), .second, .val (.long q2), .second, .val (.long q3), .second, .val (.long q4), .second, .val (.long q5), .second, iv p6, .val (.long ((q4 &&& (2147483647 : Int64)) - (q4 &&& (2147483647 : Int64)) / (1000000 : Int64) * (1000000 : Int64))), .second, rv b1, iv (1 : Int32), .val (.long ((p6 >>> ((12 : Int32) &&& 31)).toInt64)), .second, .val (.long (q3 + ((p6 >>> ((12 : Int32) &&& 31)).toInt64))), .second, .val (.long (q5 + ((p6 >>> ((12 : Int32) &&& 31)).toInt64))), .second] [(.int (lcmpW ((q5 ^^^ (q5 + ((p6 >>> ((12 : Int32) &&& 31)).toInt64))) &&& (((p6 >>> ((12 : Int32) &&& 31)).toInt64) ^^^ (q5 + ((p6 >>> ((12 : Int32) &&& 31)).toInt64)))) (0 : Int64)))]))
    by_cases hc111 : ((q5 ^^^ (q5 + ((p6 >>> ((12 : Int32) &&& 31)).toInt64))) &&& (((p6 >>> ((12 : Int32) &&& 31)).toInt64) ^^^ (q5 + ((p6 >>> ((12 : Int32) &&& 31)).toInt64)))) < (0 : Int64)
    ·
      refine own_go ?_ (fun target hr => XS.ifNo X4.here hx rfl (hb hby at_111) rfl ((if0 _ _).trans (tlt ((lw_lt ((q5 ^^^ (q5 + ((p6 >>> ((12 : Int32) &&& 31)).toInt64))) &&& (((p6 >>> ((12 : Int32) &&& 31)).toInt64) ^^^ (q5 + ((p6 >>> ((12 : Int32) &&& 31)).toInt64)))) (0 : Int64)).mpr hc111)).2.1) (XS.iconst X4.here hx rfl (hb hby at_114) hr))
      show own_G _ p e below s _ _ _ (T4.setTop (mkF m 115 #[.val (.long q1), .second, .val (.long q2), .second, .val (.long q3), .second, .val (.long q4), .second, .val (.long q5), .second, iv p6, .val (.long ((q4 &&& (2147483647 : Int64)) - (q4 &&& (2147483647 : Int64)) / (1000000 : Int64) * (1000000 : Int64))), .second, rv b1, iv (1 : Int32), .val (.long ((p6 >>> ((12 : Int32) &&& 31)).toInt64)), .second, .val (.long (q3 + ((p6 >>> ((12 : Int32) &&& 31)).toInt64))), .second, .val (.long (q5 + ((p6 >>> ((12 : Int32) &&& 31)).toInt64))), .second] [(.int (1 : Int32))]))
      obtain ⟨fs, hr, hrun, hended, hW, hsame⟩ := X4.leave (v := some (.int (1 : Int32))) (fun h => by rw [Bd.returns] at h; cases h)
      exact ⟨_, _, retN X4 hx (t := .boolean) Bd.returns (by simp) (hb hby at_115) hr, hrun, hended, _, _, rfl, ⟨(by unfold f0; rw [if_neg hc86, if_pos hc111]), N4, trivial⟩, ⟨_, rfl⟩, hW, hsame.mono (by decide) (by decide)⟩
    ·
      refine own_go ?_ (fun target hr => XS.ifYes X4.here hx rfl (pc0 := 111) (pc' := 116) rfl (hb hby at_111) rfl ((if0 _ _).trans (flt (fun q => hc111 ((lw_lt ((q5 ^^^ (q5 + ((p6 >>> ((12 : Int32) &&& 31)).toInt64))) &&& (((p6 >>> ((12 : Int32) &&& 31)).toInt64) ^^^ (q5 + ((p6 >>> ((12 : Int32) &&& 31)).toInt64)))) (0 : Int64)).mp q))).2.1) (by decide) (by decide) (XS.aload X4.here hx rfl (hb hby at_116) rfl rfl (XS.lload X4.here hx rfl (hb hby at_118) rfl hr)))
      show own_G _ p e below s _ _ _ (T4.setTop (mkF m 120 #[.val (.long q1), .second, .val (.long q2), .second, .val (.long q3), .second, .val (.long q4), .second, .val (.long q5), .second, iv p6, .val (.long ((q4 &&& (2147483647 : Int64)) - (q4 &&& (2147483647 : Int64)) / (1000000 : Int64) * (1000000 : Int64))), .second, rv b1, iv (1 : Int32), .val (.long ((p6 >>> ((12 : Int32) &&& 31)).toInt64)), .second, .val (.long (q3 + ((p6 >>> ((12 : Int32) &&& 31)).toInt64))), .second, .val (.long (q5 + ((p6 >>> ((12 : Int32) &&& 31)).toInt64))), .second] [(.long (q3 + ((p6 >>> ((12 : Int32) &&& 31)).toInt64))), (.ref b1)]))
      obtain ⟨cq5, kq5, q5a, q5b, q5c⟩ := isOf hZ e4 P3_0
      obtain ⟨_, _, ⟨T5, L5, k5, n5⟩, -, X5, ⟨Lc5, hQ5, l5, y5, z5⟩, st5⟩ := X4.virtualBack hx (y := (⟨"com/example/prita/prita/arbiter/SimulatedClock", "read", "(J)J"⟩ : MethodName)) (z := (⟨"com/example/prita/prita/arbiter/SimulatedClock", "read", "(J)J"⟩ : MethodName)) hown (mvT hZ (hw _ (List.mem_of_getElem? (i := 20) rfl))) (mvT hZ (hw _ (List.mem_of_getElem? (i := 21) rfl))) (notFace_of_selects (args := #[]) (mvT hZ (hw _ (List.mem_of_getElem? (i := 23) rfl)))) (mvT hZ (hw _ (List.mem_of_getElem? (i := 23) rfl))) (mvT hZ (hw _ (List.mem_of_getElem? (i := 22) rfl))) (by decide) (backOf (W := 0) (rm4 l Z a0 hw [] b1 (q3 + ((p6 >>> ((12 : Int32) &&& 31)).toInt64)) q3 q5 T3.heap n0 (Nat.le_trans (Nat.le_trans (Nat.le_trans Z0 E1.1) K2.1) K3.1) P3_1 P3_2 (own_e3 q3 ((p6 >>> ((12 : Int32) &&& 31)).toInt64) hc86) (own_e4 q3 ((p6 >>> ((12 : Int32) &&& 31)).toInt64) q5 hc111)) hZ (hw _ (List.mem_of_getElem? (i := 24) rfl)) (hw _ (List.mem_of_getElem? (i := 4) rfl)) (by decide) (by decide)) q5a q5c (g := (mkF m 120 #[.val (.long q1), .second, .val (.long q2), .second, .val (.long q3), .second, .val (.long q4), .second, .val (.long q5), .second, iv p6, .val (.long ((q4 &&& (2147483647 : Int64)) - (q4 &&& (2147483647 : Int64)) / (1000000 : Int64) * (1000000 : Int64))), .second, rv b1, iv (1 : Int32), .val (.long ((p6 >>> ((12 : Int32) &&& 31)).toInt64)), .second, .val (.long (q3 + ((p6 >>> ((12 : Int32) &&& 31)).toInt64))), .second, .val (.long (q5 + ((p6 >>> ((12 : Int32) &&& 31)).toInt64))), .second] [(.long (q3 + ((p6 >>> ((12 : Int32) &&& 31)).toInt64))), (.ref b1)])) rfl (by rw [hml]; rfl) (Steps.refl _) (argsL := [(.long (q3 + ((p6 >>> ((12 : Int32) &&& 31)).toInt64)))]) (rest := []) (lenOf pd__J_J rfl) rfl (by show 2 * 0 + _ ≤ _; exact Nat.le_of_eq rfl) (hb hby at_120) (fun _ _ => ⟨rfl, e4, (by decide : 1 + 0 ≤ _), (by decide : 2 + 0 ≤ _)⟩)
      dsimp only [Pt.U, Pt.locs, Pt.cells, Pt.slots] at X5 l5 y5 z5 st5 hQ5
      subst l5 y5 z5
      obtain ⟨rfl, N5q, e5⟩ := hQ5
      have N5 := Fr.app N4 N5q
      refine own_go ?_ (fun target hr => st5.trans (XS.lload X5.here hx rfl (hb hby at_123) rfl (XS.lcmp X5.here hx rfl (hb hby at_125) rfl (XS.ifNo X5.here hx rfl (hb hby at_126) rfl ((if0 _ _).trans (teq ((lw_eq (q5 + ((q3 + ((p6 >>> ((12 : Int32) &&& 31)).toInt64)) - q3)) (q5 + ((p6 >>> ((12 : Int32) &&& 31)).toInt64))).mpr (own_e6 q3 ((p6 >>> ((12 : Int32) &&& 31)).toInt64) q5))).2) (XS.iconst X5.here hx rfl (hb hby at_129) (XS.goto X5.here hx rfl (pc0 := 130) (pc' := 134) rfl (hb hby at_130) (by decide) (by decide) hr))))))
      show own_G _ p e below s _ _ _ (T5.setTop (mkF m 134 #[.val (.long q1), .second, .val (.long q2), .second, .val (.long q3), .second, .val (.long q4), .second, .val (.long q5), .second, iv p6, .val (.long ((q4 &&& (2147483647 : Int64)) - (q4 &&& (2147483647 : Int64)) / (1000000 : Int64) * (1000000 : Int64))), .second, rv b1, iv (1 : Int32), .val (.long ((p6 >>> ((12 : Int32) &&& 31)).toInt64)), .second, .val (.long (q3 + ((p6 >>> ((12 : Int32) &&& 31)).toInt64))), .second, .val (.long (q5 + ((p6 >>> ((12 : Int32) &&& 31)).toInt64))), .second] [(.int (1 : Int32))]))
      obtain ⟨fs, hr, hrun, hended, hW, hsame⟩ := X5.leave (v := some (.int (1 : Int32))) (fun h => by rw [Bd.returns] at h; cases h)
      exact ⟨_, _, retN X5 hx (t := .boolean) Bd.returns (by simp) (hb hby at_134) hr, hrun, hended, _, _, rfl, ⟨(by unfold f0; rw [if_neg hc86, if_neg hc111]), N5, trivial⟩, ⟨_, rfl⟩, hW, hsame.mono (by decide) (by decide)⟩
theorem own_plain (a b e p u : Int64) (d : Int32) : f0 a b e p u d = 1 := by
  unfold f0
  repeat' split
  all_goals rfl
set_option maxRecDepth 65536 in
set_option maxHeartbeats 40000000 in
theorem comes_1 {Post : Tables → Env → Array Value → State → Outcome → State → Prop} (hpost : ∀ tb e args s v u, (limb_1_1.after args s (.returned v) u = true ∧ limb_1_2.after args s (.returned v) u = true ∧ True) → FrameEnd s (.returned v) u (Jvm.fieldLocs frame_1_writes args s ++ Jvm.arrayLocs frame_1_arrays args s ++ Jvm.staticLocs frame_1_statics s) 16 128 → Post tb e args s (.returned v) u) :
    ArmFor flags0 classFile x code maxLocals ret World_1 tables_1 room_1 Calls_1 rest_1 Pre_1 Post := by
  intro l hfl _ _ p e ha hc hk s m args below hf hA hF happ hP
  obtain ⟨hcalls, hrest, hpre⟩ := hP
  obtain ⟨-, -, -, hnamed, -, -, -, hat⟩ := (Spec.applies_iff hf).mp happ
  obtain ⟨hg, hn⟩ := and_e (Cond.before_iff.mp (show (Jvm.Cond.and given_1 narrow_1).before args s = true from hpre))
  obtain ⟨h1, g0⟩ := and_e hg
  obtain ⟨b0, g1⟩ := and_e g0
  obtain ⟨b1, g2⟩ := and_e g1
  obtain ⟨b2, g3⟩ := and_e g2
  obtain ⟨b3, g4⟩ := and_e g3
  obtain ⟨b4, g5⟩ := and_e g4
  obtain ⟨w0, w1, w2, w3, w4, w5, rfl⟩ : ∃ w0 w1 w2 w3 w4 w5 : Value, args = #[w0, w1, w2, w3, w4, w5] := by
    have hs : args.size = 6 := by simpa [Cond.value, given_1] using h1
    obtain ⟨L⟩ := args
    match L, hs with
    | [w0, w1, w2, w3, w4, w5], _ => exact ⟨w0, w1, w2, w3, w4, w5, rfl⟩
  have hw := fun d (hd : d ∈ tables_1) => atoms_spec (ws := Jvm.Cond.code x code maxLocals ret :: tables_1) hat d (List.mem_cons_of_mem _ hd)
  have hfit : Fit s := fun {y c} hc i hi => by
    obtain ⟨ha, rfl⟩ := Array.getElem?_eq_some_iff.mp hc
    have q := List.all_eq_true.mp ((Array.all_eq_true_iff_forall_mem.mp hF) _ (Array.getElem_mem ha)) i (List.mem_range.mpr hi)
    simpa [Array.getElem?_eq_getElem hi] using q
  obtain ⟨i0, ev0⟩ := isL_v b0
  obtain rfl : w0 = (.long i0) := Option.some.inj ev0
  obtain ⟨i1, ev1⟩ := isL_v b1
  obtain rfl : w1 = (.long i1) := Option.some.inj ev1
  obtain ⟨i2, ev2⟩ := isL_v b2
  obtain rfl : w2 = (.long i2) := Option.some.inj ev2
  obtain ⟨i3, ev3⟩ := isL_v b3
  obtain rfl : w3 = (.long i3) := Option.some.inj ev3
  obtain ⟨i4, ev4⟩ := isL_v b4
  obtain rfl : w4 = (.long i4) := Option.some.inj ev4
  obtain ⟨i5, ev5⟩ := is_v g5
  obtain rfl : w5 = (.int i5) := Option.some.inj ev5
  obtain ⟨n, o, h1, h2, h3, _, L, rfl, ⟨rfl, N, _⟩, hq⟩ := rm0 l s _ hw tables_1 i0 i1 i2 i3 i4 i5 s.heap s.heap.size (Nat.le_refl _)  p e ha hc hk s m _ below hf ((Spec.applies_iff_loose hf).mp happ).1 ⟨rfl, State.Warmed39.refl s, rfl⟩ trivial
  refine ⟨n, _, h1, h2, h3, hpost _ _ _ _ _ _ ⟨Cond.after_iff.mpr rfl, Cond.after_iff.mpr (eq_i res_at (Term.int_eval (1)) (congrArg Value.int (own_plain i0 i1 i2 i3 i4 i5))), trivial⟩ ⟨hq.1, hq.2.1, (hq.2.2.sift fun y hy => Or.inr (N y hy)).mono (by decide) (by decide)⟩⟩
theorem main_1_1 : Claimed_1_1 := comes_1 fun _ _ _ _ _ _ h hF => ⟨h.1, hF⟩
theorem main_1_2 : Claimed_1_2 := comes_1 fun _ _ _ _ _ _ h hF => ⟨h.2.1, hF⟩
end Jvm.Pilot.@@N@@
namespace Jvm.Pilot.@@N@@
open Jvm Jvm.ClassFile Sem Op Lib Jvm.Free Jvm.Stand Jvm.Pilot.@@N@@.Jvm.D
/-! MADE BY PROGRAM (witnessworld.py) out of the Statement's table words and the real class files: 9 classes; the members and pool entries that the words name. The judged class is class 1, her method 1. -/
namespace start1
open Jvm.ClassFile
def u (s : String) : CpInfo := .utf8 (stringToUtf16 s)
/-- a pool by its gaps: so many unusable entries, then the entry; so many at the end -/
def gap : Nat → List CpInfo → List CpInfo
  | 0, r => r
  | n + 1, r => .unusable :: gap n r
def poolList (es : List (Nat × CpInfo)) (last : Nat) : List CpInfo := es.foldr (fun e r => gap e.1 (e.2 :: r)) (gap last [])
def pool (es : List (Nat × CpInfo)) (last : Nat) : Array CpInfo := ⟨poolList es last⟩
def fileOf (pool : Array CpInfo) (this : Nat) (attrs : Array Attribute := #[]) (ms : Array MethodInfo := #[]) (fl : Nat := 33) (sup : Nat := 0) (ifs : Array Nat := #[]) (fds : Array FieldInfo := #[]) : ClassFile where
  minorVersion := 0
  majorVersion := 65
  constantPool := pool
  accessFlags := fl
  thisClass := this
  superClass := sup
  interfaces := ifs
  fields := fds
  methods := ms
  attributes := attrs
def plain (name : String) (sup : Option ClassId) : Class where
  name := name
  kind := .ordinary
  loader := none
  accessFlags := 33
  super := sup
  interfaces := #[]
  cf := none
  fields := #[]
  methods := #[]
  instanceTypes := #[]
  staticTypes := #[]
  resolved := #[]
  callSites := []
  init := .initialized
  statics := none
  mirror := none

def pool0 : Array CpInfo := pool [(5, u "<init>"), (0, u "()V"), (1, .class_ 10), (1, u "java/lang/Object")] 113

def k0c0 : Code := { maxStack := 0, maxLocals := 1, code := object_method_1_code, exceptionTable := #[], attributes := #[] }
def k0m0 : Method := { name := "<init>", desc := "()V", sig := { parameters := [], returnType := none }, accessFlags := 1, code := some k0c0 }
/-- java/lang/Object -/
def k0 : Class := { plain "java/lang/Object" none with
  accessFlags := 33
  interfaces := #[]
  cf := some (fileOf pool0 8 #[] #[{ accessFlags := 1, nameIndex := 5, descriptorIndex := 6, attributes := #[] }] 33 0 #[] #[])
  fields := #[]
  methods := #[k0m0]
  instanceTypes := #[]
  staticTypes := #[]
  resolved := Array.replicate 124 none
  statics := none }

def pool1 : Array CpInfo := pool [(2, .class_ 4), (1, u "java/lang/Object"), (0, u "<init>"), (0, u "()V"), (0, .long 2147483647), (1, .long 1000000), (1, .class_ 12), (0, u "com/example/prita/prita/arbiter/SimulatedClock"), (0, .methodref 11 14), (0, .nameAndType 5 15), (0, u "(JJ)V"), (0, .methodref 11 17), (0, .nameAndType 18 19), (0, u "set"), (0, u "(JJJ)Z"), (0, .methodref 11 21), (0, .nameAndType 22 23), (0, u "read"), (0, u "(J)J"), (0, .class_ 25), (0, u "com/example/prita/prita/arbiter/SimulatedClockSetPinLaw"), (2, u "law"), (0, u "(JJJJJI)Z")] 3

def k1m0 : Method := { name := "<init>", desc := "()V", sig := { parameters := [], returnType := none }, accessFlags := 1, code := none }
def k1c1 : Code := { maxStack := 7, maxLocals := 21, code := code, exceptionTable := #[], attributes := #[] }
def k1m1 : Method := { name := "law", desc := "(JJJJJI)Z", sig := { parameters := [.long, .long, .long, .long, .long, .int], returnType := some .boolean }, accessFlags := 9, code := some k1c1 }
/-- com/example/prita/prita/arbiter/SimulatedClockSetPinLaw -/
def k1 : Class := { plain "com/example/prita/prita/arbiter/SimulatedClockSetPinLaw" (some 0) with
  accessFlags := 49
  interfaces := #[]
  cf := some (fileOf pool1 24 #[] #[{ accessFlags := 1, nameIndex := 5, descriptorIndex := 6, attributes := #[] }, { accessFlags := 9, nameIndex := 28, descriptorIndex := 29, attributes := #[] }] 49 2 #[] #[])
  fields := #[]
  methods := #[k1m0, k1m1]
  instanceTypes := #[]
  staticTypes := #[]
  resolved := Array.replicate 33 none
  statics := none }

def pool2 : Array CpInfo := pool [(1, .class_ 2), (0, u "com/example/prita/prita/arbiter/Clock"), (0, .class_ 4), (0, u "java/lang/Object")] 6

/-- com/example/prita/prita/arbiter/Clock -/
def k2 : Class := { plain "com/example/prita/prita/arbiter/Clock" (some 0) with
  accessFlags := 1537
  interfaces := #[]
  cf := some (fileOf pool2 1 #[] #[] 1537 3 #[] #[])
  fields := #[]
  methods := #[]
  instanceTypes := #[]
  staticTypes := #[]
  resolved := Array.replicate 11 none
  statics := none }

def pool3 : Array CpInfo := pool [(2, .class_ 4), (1, u "com/example/prita/prita/arbiter/SimulatedClock"), (0, u "<init>"), (0, u "(JJ)V"), (0, .methodref 8 9), (0, .class_ 10), (0, .nameAndType 5 11), (0, u "java/lang/Object"), (0, u "()V"), (0, .fieldref 2 13), (0, .nameAndType 14 15), (0, u "setAtElapsedMs"), (0, u "J"), (0, .fieldref 2 17), (0, .nameAndType 18 15), (0, u "setToUnixEpochMs"), (0, .methodref 20 21), (0, .class_ 22), (0, .nameAndType 23 24), (0, u "java/lang/Math"), (0, u "subtractExact"), (0, u "(JJ)J"), (0, .methodref 20 26), (0, .nameAndType 27 24), (0, u "addExact"), (0, .class_ 29), (0, u "com/example/prita/prita/arbiter/Clock"), (3, u "read"), (0, u "(J)J"), (0, u "set"), (0, u "(JJJ)Z")] 2

def k3c0 : Code := { maxStack := 3, maxLocals := 5, code := prog_10_method_2_code, exceptionTable := #[], attributes := #[] }
def k3m0 : Method := { name := "<init>", desc := "(JJ)V", sig := { parameters := [.long, .long], returnType := none }, accessFlags := 1, code := some k3c0 }
def k3c1 : Code := { maxStack := 6, maxLocals := 3, code := prog_10_method_3_code, exceptionTable := #[], attributes := #[] }
def k3m1 : Method := { name := "read", desc := "(J)J", sig := { parameters := [.long], returnType := some .long }, accessFlags := 1, code := some k3c1 }
def k3c2 : Code := { maxStack := 3, maxLocals := 7, code := prog_10_method_4_code, exceptionTable := #[], attributes := #[] }
def k3m2 : Method := { name := "set", desc := "(JJJ)Z", sig := { parameters := [.long, .long, .long], returnType := some .boolean }, accessFlags := 1, code := some k3c2 }
/-- com/example/prita/prita/arbiter/SimulatedClock -/
def k3 : Class := { plain "com/example/prita/prita/arbiter/SimulatedClock" (some 0) with
  accessFlags := 49
  interfaces := #[2]
  cf := some (fileOf pool3 2 #[] #[{ accessFlags := 1, nameIndex := 5, descriptorIndex := 6, attributes := #[] }, { accessFlags := 1, nameIndex := 33, descriptorIndex := 34, attributes := #[] }, { accessFlags := 1, nameIndex := 35, descriptorIndex := 36, attributes := #[] }] 49 8 #[28] #[{ accessFlags := 2, nameIndex := 14, descriptorIndex := 15, attributes := #[] }, { accessFlags := 2, nameIndex := 18, descriptorIndex := 15, attributes := #[] }])
  fields := #[{ name := "setAtElapsedMs", type := .long, accessFlags := 2, slot := 0, constantValue := 0 }, { name := "setToUnixEpochMs", type := .long, accessFlags := 2, slot := 1, constantValue := 0 }]
  methods := #[k3m0, k3m1, k3m2]
  instanceTypes := #[.long, .long]
  staticTypes := #[]
  resolved := Array.replicate 39 none
  statics := none }

def pool4 : Array CpInfo := pool [(1, .class_ 2), (0, u "java/lang/Math"), (1, .class_ 6), (1, u "java/lang/Object"), (0, u "<init>"), (0, u "()V"), (89, .class_ 100), (1, u "java/lang/Math$RandomNumberGeneratorHolder"), (20, u "(JJ)J"), (50, u "negativeZeroFloatBits"), (0, u "J"), (2, u "negativeZeroDoubleBits"), (68, u "$assertionsDisabled"), (0, u "Z"), (91, u "twoToTheDoubleScaleDown"), (0, u "D"), (4, u "twoToTheDoubleScaleUp"), (9, u "E"), (3, u "PI"), (2, u "TAU"), (2, u "DEGREES_TO_RADIANS"), (0, u "RADIANS_TO_DEGREES"), (27, u "addExact"), (0, u "subtractExact")] 65

def k4m0 : Method := { name := "<init>", desc := "()V", sig := { parameters := [], returnType := none }, accessFlags := 2, code := none }
def k4c1 : Code := { maxStack := 6, maxLocals := 6, code := jdk_29_method_25_code, exceptionTable := #[], attributes := #[] }
def k4m1 : Method := { name := "addExact", desc := "(JJ)J", sig := { parameters := [.long, .long], returnType := some .long }, accessFlags := 9, code := some k4c1 }
def k4c2 : Code := { maxStack := 6, maxLocals := 6, code := jdk_29_method_27_code, exceptionTable := #[], attributes := #[] }
def k4m2 : Method := { name := "subtractExact", desc := "(JJ)J", sig := { parameters := [.long, .long], returnType := some .long }, accessFlags := 9, code := some k4c2 }
/-- java/lang/Math -/
def k4 : Class := { plain "java/lang/Math" (some 0) with
  accessFlags := 49
  interfaces := #[]
  cf := some (fileOf pool4 1 #[.nestMembers #[98]] #[{ accessFlags := 2, nameIndex := 7, descriptorIndex := 8, attributes := #[] }, { accessFlags := 9, nameIndex := 393, descriptorIndex := 121, attributes := #[] }, { accessFlags := 9, nameIndex := 394, descriptorIndex := 121, attributes := #[] }] 49 4 #[] #[{ accessFlags := 25, nameIndex := 354, descriptorIndex := 339, attributes := #[] }, { accessFlags := 25, nameIndex := 358, descriptorIndex := 339, attributes := #[] }, { accessFlags := 25, nameIndex := 361, descriptorIndex := 339, attributes := #[] }, { accessFlags := 26, nameIndex := 364, descriptorIndex := 339, attributes := #[] }, { accessFlags := 26, nameIndex := 365, descriptorIndex := 339, attributes := #[] }, { accessFlags := 26, nameIndex := 172, descriptorIndex := 173, attributes := #[] }, { accessFlags := 26, nameIndex := 176, descriptorIndex := 173, attributes := #[] }, { accessFlags := 8, nameIndex := 344, descriptorIndex := 339, attributes := #[] }, { accessFlags := 8, nameIndex := 338, descriptorIndex := 339, attributes := #[] }, { accessFlags := 4120, nameIndex := 245, descriptorIndex := 246, attributes := #[] }])
  fields := #[{ name := "E", type := .double, accessFlags := 25, slot := 0, constantValue := 0 }, { name := "PI", type := .double, accessFlags := 25, slot := 1, constantValue := 0 }, { name := "TAU", type := .double, accessFlags := 25, slot := 2, constantValue := 0 }, { name := "DEGREES_TO_RADIANS", type := .double, accessFlags := 26, slot := 3, constantValue := 0 }, { name := "RADIANS_TO_DEGREES", type := .double, accessFlags := 26, slot := 4, constantValue := 0 }, { name := "negativeZeroFloatBits", type := .long, accessFlags := 26, slot := 5, constantValue := 0 }, { name := "negativeZeroDoubleBits", type := .long, accessFlags := 26, slot := 6, constantValue := 0 }, { name := "twoToTheDoubleScaleUp", type := .double, accessFlags := 8, slot := 7, constantValue := 0 }, { name := "twoToTheDoubleScaleDown", type := .double, accessFlags := 8, slot := 8, constantValue := 0 }, { name := "$assertionsDisabled", type := .boolean, accessFlags := 4120, slot := 9, constantValue := 0 }]
  methods := #[k4m0, k4m1, k4m2]
  instanceTypes := #[]
  staticTypes := #[.double, .double, .double, .double, .double, .long, .long, .double, .double, .boolean]
  resolved := Array.replicate 460 none
  statics := none }

def pool5 : Array CpInfo := pool [(1, u "java/lang/Cloneable"), (0, .class_ 1), (0, u "java/lang/Object"), (0, .class_ 3)] 3

/-- java/lang/Cloneable -/
def k5 : Class := { plain "java/lang/Cloneable" (some 0) with
  accessFlags := 1537
  interfaces := #[]
  cf := some (fileOf pool5 2 #[] #[] 1537 4 #[] #[])
  fields := #[]
  methods := #[]
  instanceTypes := #[]
  staticTypes := #[]
  resolved := Array.replicate 8 none
  statics := none }

def pool6 : Array CpInfo := pool [(1, u "java/io/Serializable"), (0, .class_ 1), (0, u "java/lang/Object"), (0, .class_ 3)] 3

/-- java/io/Serializable -/
def k6 : Class := { plain "java/io/Serializable" (some 0) with
  accessFlags := 1537
  interfaces := #[]
  cf := some (fileOf pool6 2 #[] #[] 1537 4 #[] #[])
  fields := #[]
  methods := #[]
  instanceTypes := #[]
  staticTypes := #[]
  resolved := Array.replicate 8 none
  statics := none }

/-- the primitive byte -/
def k7 : Class := { plain "byte" none with kind := .primitive 'B', accessFlags := 0x411 }
/-- [B -/
def k8 : Class := { plain "[B" (some 0) with kind := .array 7 .byte, interfaces := #[5, 6], accessFlags := 1041 }

def heap : Heap := #[]
def classes : Array Class := #[k0, k1, k2, k3, k4, k5, k6, k7, k8]
def interned : List (Array UInt16 × Addr) := []
def slotsUsed : Nat := 0
def theMethod : MethodId := ⟨1, 1⟩
def args0 : Array Value := #[.long 1, .long 2, .long 3, .long 4, .long 5, .int 6]
def aboutOver (below : List Frame) : State where
  vm := { classes := classes, interned := interned.toArray }
  heap := heap
  slotsUsed := slotsUsed
  threads := #[{ frames := .invoking theMethod args0 :: below }]
def below0 : List Frame := [.native { method := ⟨0, 0⟩, args := #[] }]
def about1 : State := aboutOver below0
def p0 : Program := .bare "" "" ""
def e0 : Env := launch0.env 0 0 0
theorem w_frames : about1.frames = Frame.invoking theMethod args0 :: below0 := rfl
set_option maxRecDepth 65536 in
theorem w_args : argsFit about1.vm theMethod args0 = true := by decide +kernel
set_option maxRecDepth 65536 in
theorem w_heap : heapFits about1 = true := by decide +kernel
set_option maxRecDepth 65536 in
theorem w_runnable : about1.curStatus? = some .runnable := by decide +kernel
set_option maxRecDepth 65536 in
theorem w_alone : about1.alone = true := by decide +kernel
set_option maxRecDepth 65536 in
theorem w_named : about1.methodNamed? x = some theMethod := by decide +kernel
set_option maxRecDepth 65536 in
theorem w_hears : about1.hears theMethod below0 = true := by decide +kernel
set_option maxRecDepth 65536 in
theorem w_ripe : about1.ripe theMethod args0 below0 = true := by decide +kernel
theorem w_running : about1.status = .running := rfl
set_option maxRecDepth 65536 in
theorem w_room : about1.hasRoom e0.platform room_1 = true :=
  launch0.hasRoom_least _ room_1 (by decide +kernel) (by decide +kernel) (by decide +kernel) (by decide +kernel) (by decide +kernel) (by decide +kernel)
theorem allAtoms_all (ts : List Jvm.Cond) (a : Array Jvm.Value) (st : Jvm.State) : (allAtoms ts).before a st = ts.all (fun c => c.before a st) := by
  induction ts with
  | nil => rfl
  | cons c t ih =>
    show (Jvm.Cond.and c (allAtoms t)).before a st = _
    rw [Jvm.Cond.before_and, ih, List.all_cons]
def words1 : List Jvm.Cond := Jvm.Cond.code x code maxLocals ret :: tables_1
/-- a 'code' word, met by the world's own term for the bytes: nothing is compared byte by byte -/
theorem code_word {y : MethodName} {bytes : ByteArray} {mx : Nat} {rt : Option FieldType} {a : Array Value} {s : State} {m : MethodId} {meth : Method} {c : Code} (h1 : s.methodNamed? y = some m) (h2 : s.vm.method? m = some meth) (h3 : meth.code = some c) (h4 : c.code = bytes)
    (h5 : (c.maxLocals == mx && c.exceptionTable.isEmpty && decide (c.maxStack ≤ mostOperands) && decide (meth.sig.returnType = rt) && !meth.locks && decide (parseMethodDescriptor y.desc = some meth.sig)) = true) : (Jvm.Cond.code y bytes mx rt).before a s = true := by
  simp only [Bool.and_eq_true, beq_iff_eq, Bool.not_eq_true', decide_eq_true_eq] at h5
  obtain ⟨⟨⟨⟨⟨g1, g2⟩, g3⟩, g4⟩, g5⟩, g6⟩ := h5
  simp [Cond.before, Cond.holds, Cond.value, h1, h2, h3, h4, g1, g2, g3, g4, g5, g6]
def isCode : Jvm.Cond → Bool
  | .code _ _ _ _ => true
  | _ => false
theorem all_split {L : List Jvm.Cond} {P : Jvm.Cond → Bool} (h1 : L.all (fun c => isCode c || P c) = true) (h2 : ∀ c ∈ L.filter isCode, P c = true) : L.all P = true := by
  refine List.all_eq_true.mpr fun c hc => ?_
  have h := List.all_eq_true.mp h1 c hc
  rcases Bool.eq_false_or_eq_true (isCode c) with hi | hi
  · exact h2 c (List.mem_filter.mpr ⟨hc, hi⟩)
  · simpa [hi] using h
set_option maxRecDepth 65536 in
theorem w_c0 : (Jvm.Cond.code x code maxLocals ret).before args0 about1 = true := code_word (m := ⟨1, 1⟩) (meth := k1m1) (c := k1c1) (by decide +kernel) rfl rfl rfl (by decide +kernel)
set_option maxRecDepth 65536 in
theorem w_c1 : (Jvm.Cond.code ({ cls := "com/example/prita/prita/arbiter/SimulatedClock", name := "<init>", desc := "(JJ)V" } : Jvm.MethodName) prog_10_method_2_code (5 : Nat) (Option.none : Option Jvm.ClassFile.FieldType)).before args0 about1 = true := code_word (m := ⟨3, 0⟩) (meth := k3m0) (c := k3c0) (by decide +kernel) rfl rfl rfl (by decide +kernel)
set_option maxRecDepth 65536 in
theorem w_c2 : (Jvm.Cond.code ({ cls := "java/lang/Object", name := "<init>", desc := "()V" } : Jvm.MethodName) object_method_1_code (1 : Nat) (Option.none : Option Jvm.ClassFile.FieldType)).before args0 about1 = true := code_word (m := ⟨0, 0⟩) (meth := k0m0) (c := k0c0) (by decide +kernel) rfl rfl rfl (by decide +kernel)
set_option maxRecDepth 65536 in
theorem w_c3 : (Jvm.Cond.code ({ cls := "com/example/prita/prita/arbiter/SimulatedClock", name := "set", desc := "(JJJ)Z" } : Jvm.MethodName) prog_10_method_4_code (7 : Nat) (Option.some Jvm.ClassFile.FieldType.boolean)).before args0 about1 = true := code_word (m := ⟨3, 2⟩) (meth := k3m2) (c := k3c2) (by decide +kernel) rfl rfl rfl (by decide +kernel)
set_option maxRecDepth 65536 in
theorem w_c4 : (Jvm.Cond.code ({ cls := "com/example/prita/prita/arbiter/SimulatedClock", name := "read", desc := "(J)J" } : Jvm.MethodName) prog_10_method_3_code (3 : Nat) (Option.some Jvm.ClassFile.FieldType.long)).before args0 about1 = true := code_word (m := ⟨3, 1⟩) (meth := k3m1) (c := k3c1) (by decide +kernel) rfl rfl rfl (by decide +kernel)
set_option maxRecDepth 65536 in
theorem w_c5 : (Jvm.Cond.code ({ cls := "java/lang/Math", name := "subtractExact", desc := "(JJ)J" } : Jvm.MethodName) jdk_29_method_27_code (6 : Nat) (Option.some Jvm.ClassFile.FieldType.long)).before args0 about1 = true := code_word (m := ⟨4, 2⟩) (meth := k4m2) (c := k4c2) (by decide +kernel) rfl rfl rfl (by decide +kernel)
set_option maxRecDepth 65536 in
theorem w_c6 : (Jvm.Cond.code ({ cls := "java/lang/Math", name := "addExact", desc := "(JJ)J" } : Jvm.MethodName) jdk_29_method_25_code (6 : Nat) (Option.some Jvm.ClassFile.FieldType.long)).before args0 about1 = true := code_word (m := ⟨4, 1⟩) (meth := k4m1) (c := k4c1) (by decide +kernel) rfl rfl rfl (by decide +kernel)
def codes1 : List Jvm.Cond := [Jvm.Cond.code x code maxLocals ret, Jvm.Cond.code ({ cls := "com/example/prita/prita/arbiter/SimulatedClock", name := "<init>", desc := "(JJ)V" } : Jvm.MethodName) prog_10_method_2_code (5 : Nat) (Option.none : Option Jvm.ClassFile.FieldType), Jvm.Cond.code ({ cls := "java/lang/Object", name := "<init>", desc := "()V" } : Jvm.MethodName) object_method_1_code (1 : Nat) (Option.none : Option Jvm.ClassFile.FieldType), Jvm.Cond.code ({ cls := "com/example/prita/prita/arbiter/SimulatedClock", name := "set", desc := "(JJJ)Z" } : Jvm.MethodName) prog_10_method_4_code (7 : Nat) (Option.some Jvm.ClassFile.FieldType.boolean), Jvm.Cond.code ({ cls := "com/example/prita/prita/arbiter/SimulatedClock", name := "read", desc := "(J)J" } : Jvm.MethodName) prog_10_method_3_code (3 : Nat) (Option.some Jvm.ClassFile.FieldType.long), Jvm.Cond.code ({ cls := "java/lang/Math", name := "subtractExact", desc := "(JJ)J" } : Jvm.MethodName) jdk_29_method_27_code (6 : Nat) (Option.some Jvm.ClassFile.FieldType.long), Jvm.Cond.code ({ cls := "java/lang/Math", name := "addExact", desc := "(JJ)J" } : Jvm.MethodName) jdk_29_method_25_code (6 : Nat) (Option.some Jvm.ClassFile.FieldType.long)]
set_option maxRecDepth 65536 in
theorem codes_eq : words1.filter isCode = codes1 := rfl
theorem w_codes : ∀ c ∈ words1.filter isCode, c.before args0 about1 = true := by
  rw [codes_eq]
  intro c hc
  simp only [codes1, List.mem_cons, List.not_mem_nil, or_false] at hc
  rcases hc with rfl | rfl | rfl | rfl | rfl | rfl | rfl
  · exact w_c0
  · exact w_c1
  · exact w_c2
  · exact w_c3
  · exact w_c4
  · exact w_c5
  · exact w_c6
set_option maxRecDepth 65536 in
theorem w_t1 : (words1.take 24).all (fun c => isCode c || c.before args0 about1) = true := by decide +kernel
set_option maxRecDepth 65536 in
theorem w_t2 : (words1.drop 24).all (fun c => isCode c || c.before args0 about1) = true := by decide +kernel
theorem w_tables : (allAtoms (Jvm.Cond.code x code maxLocals ret :: tables_1)).before args0 about1 = true := by
  rw [allAtoms_all]
  show words1.all (fun c => c.before args0 about1) = true
  refine all_split ?_ w_codes
  rw [← List.take_append_drop 24 words1, List.all_append, w_t1, w_t2]
  rfl
set_option maxRecDepth 65536 in
theorem w_case : (Jvm.Cond.and given_1 narrow_1).before args0 about1 = true := by decide +kernel
theorem w_applies : (headSpec (Jvm.Cond.code x code maxLocals ret :: tables_1) room_1).applies x e0.platform about1 = true :=
  (Spec.applies_iff w_frames).mpr ⟨w_running, w_runnable, w_alone, w_named, w_hears, w_ripe, w_room, w_tables⟩
theorem atStart : AtStart classFile x code maxLocals ret World_1 tables_1 room_1 Calls_1 rest_1 Pre_1 launch0 p0 e0 about1 theMethod args0 below0 :=
  ⟨lists_1, trivial, launch0.admits_env _ _ _, launch0.least_env, fairChoices_fair.cas, fairChoices_fair.clock, w_frames, w_args, w_heap, w_applies, trivial, trivial, w_case⟩
end start1
theorem witness_1 : WitnessClaimed_1 := ⟨start1.p0, start1.e0, start1.about1, start1.theMethod, start1.args0, start1.below0, start1.atStart⟩
end Jvm.Pilot.@@N@@
